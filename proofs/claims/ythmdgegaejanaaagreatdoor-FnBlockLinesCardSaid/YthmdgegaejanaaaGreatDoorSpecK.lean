/- THE REFERENCE: Lines, leading. -/
import Derived.Test.YthmdgegaejanaaaGreatDoorBlkC
namespace Go.Proofs.YthmdgegaejanaaaGreatDoor
open Go.RowKit

set_option maxHeartbeats 6400000 in
set_option maxRecDepth 100000 in
theorem specLines_any (s : ByteArray) (all : List ByteArray) (hn : s.size ≤ 2199023255552) (hC : Cuts s 0 all) (hall : all.length ≤ 2199023255552) (w : World) :
    Calls Tryz.prog 70 #[.string s] w fun x w' => ∃ A c, x = .returned (.slice A all.length c) ∧ w'.ownsRow w.heap.size 9 1 (.slice A all.length c) all.length (strs all) ∧ Below w.heap.size w w' := by
  obtain ⟨i0, hi0, hz0, hz1, hz2⟩ := info_parts info9
  have HC := Lib.hid hC
  clear hC
  go_enter Tryz.func70, Tryz.ntmps70
  go_wp2_with fail
  go_loopg [3, 4, 5] s.size (fun m v u q wr => ∃ (done rest : List ByteArray) (f i : Nat) (A : Option Addr) (c : Nat), v = .slice A done.length c ∧ u = .int .i64 (f : Int) ∧ q = .int .i64 (i : Int) ∧ m = s.size - i ∧ f ≤ i ∧ i ≤ s.size ∧ Hid (done ++ rest = all) ∧ Hid (Cuts s f rest) ∧ Hid (∀ j, f ≤ j → j < i → ch s.data.toList j ≠ 10 ∧ ch s.data.toList j ≠ 13) ∧ Hid (wr.ownsRow w.heap.size 9 1 (.slice A done.length c) done.length (strs done)) ∧ Hid (Below w.heap.size w wr))
  case atStart => exact ⟨[], all, 0, 0, none, 0, rfl, rfl, rfl, by omega, by omega, by omega, rfl, HC, fun j h1 h2 => by omega, World.ownsRow_nil _ _ _ _, Below.refl _ _⟩
  case round =>
    obtain ⟨done, rest, f, i, A, c, rfl, rfl, rfl, rfl, hfi, his, HD, HX, HJ, HO, HB⟩ := hrel
    clear HC
    by_cases hlt : i < s.size
    · have hci := ch_byte s i hlt
      by_cases h10 : ch s.data.toList i = 10
      · -- a line ends here
        obtain ⟨r, rfl, hk⟩ := cuts_at HX.out hfi hlt HJ.out h10
        have HK := Lib.hid hk
        rw [hci] at h10
        have b13 : ((s[i].toNat : Int) != 13) = true := by rw [bne_iff_ne]; omega
        have b10 : ((s[i].toNat : Int) != 10) = false := by simp; omega
        have b13e : ((s[i].toNat : Int) == 13) = false := by simp; omega
        have hlen : done.length + (r.length + 1) = all.length := by have := congrArg List.length HD.out; simpa using this
        clear hk h10 hci HX HJ
        go_wp2_with (at_builtin; refine wpList_append_own _ rfl (.tmp 22) (.tmp 27) 22 rfl w.heap.size 9 i0 _ 1 16 Tryz.underlying22 hi0 hz0 hz1 hz2 rfl (by decide) _ _ (strs done) rfl (HO.out.alloc _) _ 1 1 [.string (s.extract f i)] rfl rfl ?c1 ?c2 ?c3 ?c4 ?c5 ?_)
        case c1 => exact one_cell _ _ _
        case c2 =>
          intro u hu
          simp at hu
          subst hu
          rfl
        case c3 => unfold maxLen; omega
        case c4 => omega
        case c5 => have := HB.out.size; simp; omega
        intro v' w3 hown' hgrow _
        have hb3 := below_grown (HB.out.alloc HB.out.size _) (Nat.le_refl _) (HO.out.alloc _) hgrow
        obtain ⟨A', c', hv⟩ := Joins.ownsRow_form hown' (by omega)
        subst hv
        have HO3 := Lib.hid hown'
        have HB3 := Lib.hid hb3
        clear hown' hgrow hb3 HO HB
        go_wp2_with fail
        go_roundg (s.size - (i + 1))
        case measure => omega
        case rel => exact ⟨done ++ [s.extract f i], r, i + 1, i + 1, some ⟨A', 0, none⟩, c', by simp, by go_num, by go_num, rfl, by omega, by omega, by have := HD.out; show _ = _; rw [List.append_assoc]; exact this, HK, fun j h1 h2 => by omega, by have := HO3.out; show World.ownsRow _ _ _ _ _ _ _; simpa [strs] using this, HB3⟩
      · -- (no text of ours has a carriage return)
        have h13 : ch s.data.toList i ≠ 13 := by
          intro h13
          have hx := HX.out
          cases hx with
          | last _ hf h => exact (h i hfi hlt).2 h13
          | cut _ t r h1 ht h h2 k =>
            rcases Nat.lt_trichotomy i t with hit | hit | hit
            · exact (h i hfi hit).2 h13
            · rw [hit, h2] at h13; omega
            · exact (HJ.out t h1 hit).1 h2
        have HJ2 : Hid (∀ j, f ≤ j → j < i + 1 → ch s.data.toList j ≠ 10 ∧ ch s.data.toList j ≠ 13) := fun j h1 h2 => by
          by_cases e : j = i
          · rw [e]; exact ⟨h10, h13⟩
          · exact HJ.out j h1 (by omega)
        rw [hci] at h10 h13
        have b13 : ((s[i].toNat : Int) != 13) = true := by rw [bne_iff_ne]; exact h13
        have b10 : ((s[i].toNat : Int) != 10) = true := by rw [bne_iff_ne]; exact h10
        clear h10 h13 hci
        go_wp2_with fail
        go_roundg (s.size - (i + 1))
        case measure => omega
        case rel => exact ⟨done, rest, f, i + 1, A, c, rfl, rfl, by go_num, rfl, by omega, by omega, HD, HX, HJ2, HO, HB⟩
    · obtain rfl : i = s.size := by omega
      have hrest := cuts_end HX.out HJ.out
      subst hrest
      have hlen : done.length + 1 = all.length := by have := congrArg List.length HD.out; simpa using this
      clear HX HJ
      go_wp2_with (at_builtin; refine wpList_append_own _ rfl (.tmp 51) (.tmp 55) 22 rfl w.heap.size 9 i0 _ 1 16 Tryz.underlying22 hi0 hz0 hz1 hz2 rfl (by decide) _ _ (strs done) rfl (HO.out.alloc _) _ 1 1 [.string (s.extract f s.size)] rfl rfl ?c1 ?c2 ?c3 ?c4 ?c5 ?_)
      case c1 => exact one_cell _ _ _
      case c2 =>
        intro u hu
        simp at hu
        subst hu
        rfl
      case c3 => unfold maxLen; omega
      case c4 => omega
      case c5 => have := HB.out.size; simp; omega
      intro v' w3 hown' hgrow _
      have hb3 := below_grown (HB.out.alloc HB.out.size _) (Nat.le_refl _) (HO.out.alloc _) hgrow
      obtain ⟨A', c', hv⟩ := Joins.ownsRow_form hown' (by omega)
      subst hv
      have HO3 := Lib.hid hown'
      have HB3 := Lib.hid hb3
      clear hown' hgrow hb3 HO HB
      go_wp2_with fail
      go_ret
      have hd := HD.out
      rw [← hd]
      refine ⟨some ⟨A', 0, none⟩, c', by simp, ?_, HB3.out⟩
      have := HO3.out
      simpa [strs, hlen] using this


set_option maxHeartbeats 1600000 in
set_option maxRecDepth 100000 in
/-- leading: some number, not beyond the line's end. -/
theorem leading_any (s : ByteArray) (hn : s.size ≤ 4611686018427387904) (w : World) :
    Calls Tryz.prog 72 #[.string s] w fun x w' => (∃ n : Nat, n ≤ s.size ∧ x = .returned (.int .i64 (n : Int))) ∧ w = w' := by
  go_enter Tryz.func72, Tryz.ntmps72
  go_wp2_with fail
  go_loop [3] (fun u => ∃ j : Nat, j ≤ s.size ∧ u = .int .i64 (j : Int)) (fun u => s.size - (intOf u).toNat)
  case atStart => exact ⟨0, by omega, rfl⟩
  case round =>
    obtain ⟨j, hj, rfl⟩ := hrel
    by_cases hlt : j < s.size
    · by_cases h32 : (s[j].toNat : Int) = 32
      · have b1 : ((s[j].toNat : Int) == 32) = true := by simpa using h32
        go_wp2_with fail
        go_round
        case rel => exact ⟨j + 1, by omega, by go_num⟩
        case measure => simp [intOf]; omega
      · have b1 : ((s[j].toNat : Int) == 32) = false := by simpa using h32
        by_cases h9 : (s[j].toNat : Int) = 9
        · have b2 : ((s[j].toNat : Int) == 9) = true := by simpa using h9
          go_wp2_with fail
          go_round
          case rel => exact ⟨j + 1, by omega, by go_num⟩
          case measure => simp [intOf]; omega
        · have b2 : ((s[j].toNat : Int) == 9) = false := by simpa using h9
          go_wp2_with fail
          go_ret
          exact ⟨⟨j, hj, rfl⟩, rfl⟩
    · obtain rfl : j = s.size := by omega
      go_wp2_with fail
      go_ret
      exact ⟨⟨s.size, hj, rfl⟩, rfl⟩

end Go.Proofs.YthmdgegaejanaaaGreatDoor
