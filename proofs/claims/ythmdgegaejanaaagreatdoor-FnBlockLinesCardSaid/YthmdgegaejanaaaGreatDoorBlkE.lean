/- BLOCK STRINGS: blockStringValue where the lines are set in. -/
import Derived.Test.YthmdgegaejanaaaGreatDoorBlkD
namespace Go.Proofs.YthmdgegaejanaaaGreatDoor
open Go.RowKit

theorem Rows_.congr {w W : World} {g n cap : Nat} {f f' : Nat → ByteArray} (h : Rows_ w W g n cap f) (e : ∀ i, i < n → f i = f' i) : Rows_ w W g n cap f' :=
  ⟨fun i hi => by rw [h.cell i hi, e i hi], h.free, h.lo, h.hi, h.room, h.top, h.below⟩

set_option maxHeartbeats 12800000 in
set_option maxRecDepth 100000 in
theorem value_pad (s : ByteArray) (k P : Nat) (hk : 0 < k) (hk2 : k ≤ 1000) (hP : 0 < P) (hP2 : P ≤ 1000) (a z : Nat → ByteArray) (want : ByteArray)
    (hL : ∀ w, Calls Tryz.prog 62 #[.string s] w fun x W => ∃ g cap, x = .returned (.slice (some ⟨g, 0, none⟩) (k + 2) cap) ∧ Rows_ w W g (k + 2) cap a)
    (h1 : ∀ i, 1 ≤ i → i ≤ k + 1 → ∀ w, Calls Tryz.prog 63 #[.string (a i)] w fun x w' => x = .returned (.int .i64 (P : Int)) ∧ Below w.heap.size w w')
    (hs : ∀ i, 1 ≤ i → i ≤ k → P < (a i).size ∧ (a i).size ≤ 1000) (hsl : (a (k + 1)).size = P) (hs0 : (a 0).size = 0)
    (hz : ∀ i, 1 ≤ i → i ≤ k + 1 → (a i).extract P (a i).size = z i) (hz0 : a 0 = z 0)
    (b0 : ∀ w, Calls Tryz.prog 64 #[.string (z 0)] w fun x w' => x = .returned (.bool true) ∧ Below w.heap.size w w')
    (bm : ∀ i, 1 ≤ i → i ≤ k → ∀ w, Calls Tryz.prog 64 #[.string (z i)] w fun x w' => x = .returned (.bool false) ∧ Below w.heap.size w w')
    (bz : ∀ w, Calls Tryz.prog 64 #[.string (z (k + 1))] w fun x w' => x = .returned (.bool true) ∧ Below w.heap.size w w')
    (hJ : ∀ w g cap, (∀ i, i < k + 2 → w.cell? ⟨g, i, none⟩ = some (.string (z i))) → g < w.heap.size → k ≤ cap → Calls Tryz.prog 65 #[.slice (some ⟨g, 1, none⟩) k cap, .string ⟨#[10]⟩] w fun x w' => x = .returned (.string want) ∧ Below w.heap.size w w') (w : World) :
    Calls Tryz.prog 48 #[.string s] w fun x w' => x = .returned (.string want) ∧ Below w.heap.size w w' := by
  have HL := Lib.hid hL
  have H1 := Lib.hid h1
  have HZ := Lib.hid hz
  have HSZ := Lib.hid hs
  have HB0 := Lib.hid b0
  have HBM := Lib.hid bm
  have HBZ := Lib.hid bz
  have HJ := Lib.hid hJ
  clear hL h1 b0 bm bz hJ hz hs
  obtain ⟨i0, hi0, hz0', hz1, hz2⟩ := info_parts info9
  have bP0 : ((P : Int) == 0) = false := by simp; omega
  have bP1 : ((P : Int) == -1) = false := by rw [beq_eq_false_iff_ne]; omega
  go_enter Tryz.func48, Tryz.ntmps48
  go_wp2_with fail
  refine (HL.out _).mono ?_
  rintro x W ⟨g, cap, rfl, hR⟩
  have HR := Lib.hid hR
  have hcap := hR.room
  have hmax := hR.top
  clear hR
  unfold maxLen at hmax
  have hroom : k + 0 ≤ cap - 1 := by omega
  have hroom2 : k ≤ cap - 1 := by omega
  obtain ⟨A, hA, hA2⟩ : ∃ A : Addr, (if cap = k + 2 then some (⟨g, 1, none⟩ : Addr) else some ⟨g, 1 + (k + 1), none⟩) = some A ∧ (if cap - 1 = k + 1 then some (⟨g, 1, none⟩ : Addr) else some ⟨g, 1 + (k + 1), none⟩) = some A := by
    by_cases e : cap = k + 2
    · exact ⟨⟨g, 1, none⟩, by rw [if_pos e], by rw [if_pos (by omega)]⟩
    · exact ⟨⟨g, 1 + (k + 1), none⟩, by rw [if_neg e], by rw [if_neg (by omega)]⟩
  have hwr : IntKind.i64.wrap ((k : Int) + 1) = (k : Int) + 1 := by rw [IntKind.wrap_i64]; omega
  have hp0 : (0 : Int) ≤ (k : Int) + 1 := by omega
  have hp2 : ((k : Int) + 1).toNat = k + 1 := by omega
  go_wp2_with fail
  go_loopg [4, 5] (k + 1) (fun m c v wr => ∃ i : Nat, 1 ≤ i ∧ i ≤ k + 2 ∧ m = k + 2 - i ∧ v = .int .i64 (i : Int) ∧ ((i = 1 ∧ c = .int .i64 (-1)) ∨ (1 < i ∧ c = .int .i64 (P : Int))) ∧ Hid (Rows_ w wr g (k + 2) cap a))
  case atStart => exact ⟨1, by omega, by omega, by omega, rfl, .inl ⟨rfl, rfl⟩, HR⟩
  case round =>
    clear HR
    obtain ⟨i, hi1, hi2, rfl, rfl, hc, HR⟩ := hrel
    by_cases hlt : i < k + 2
    · have hi3 := HR.out.cell i hlt
      have HCi := Lib.hid (H1.out i hi1 (by omega))
      by_cases hik : i ≤ k
      · obtain ⟨z1, z2⟩ := HSZ.out i hi1 hik
        have d1 : decide ((P : Int) < ((a i).size : Int)) = true := by simp; omega
        rcases hc with ⟨rfl, rfl⟩ | ⟨hgt, rfl⟩
        · have := hk
          go_wp2_with fail
          refine (HCi.out _).mono ?_
          rintro x W1 ⟨rfl, hb⟩
          have HR1 := Lib.hid (HR.out.later hb)
          clear hb hi3 HR
          go_wp2_with fail
          go_roundg (k)
          case measure => omega
          case rel => exact ⟨2, by omega, by omega, by omega, by go_num, .inr ⟨by omega, rfl⟩, HR1⟩
        · have := hk
          go_wp2_with fail
          refine (HCi.out _).mono ?_
          rintro x W1 ⟨rfl, hb⟩
          have HR1 := Lib.hid (HR.out.later hb)
          clear hb hi3 HR
          go_wp2_with fail
          go_roundg (k + 2 - (i + 1))
          case measure => omega
          case rel => exact ⟨i + 1, by omega, by omega, by omega, by go_num, .inr ⟨by omega, rfl⟩, HR1⟩
      · obtain rfl : i = k + 1 := by omega
        rcases hc with ⟨h, _⟩ | ⟨hgt, rfl⟩
        · omega
        · have d1 : decide ((P : Int) < ((a (k + 1)).size : Int)) = false := by simp; omega
          go_wp2_with fail
          refine (HCi.out _).mono ?_
          rintro x W1 ⟨rfl, hb⟩
          have HR1 := Lib.hid (HR.out.later hb)
          clear hb hi3 HR
          go_wp2_with fail
          go_roundg 0
          case measure => omega
          case rel => exact ⟨k + 2, by omega, by omega, by omega, by go_num, .inr ⟨by omega, rfl⟩, HR1⟩
    · obtain rfl : i = k + 2 := by omega
      rcases hc with ⟨h, _⟩ | ⟨hgt, rfl⟩
      · omega
      · have hPi : decide ((0 : Int) < (P : Int)) = true := by simp; omega
        have HZF := Lib.hid (HR.out.congr (f' := fun i => if i < 0 then z i else a i) (fun i hi => by simp))
        clear HR
        go_wp2_with fail
        go_loopg [45] (k + 2) (fun m v wr => ∃ j : Nat, j ≤ k + 2 ∧ m = k + 2 - j ∧ v = .int .i64 (j : Int) ∧ Hid (Rows_ w wr g (k + 2) cap (fun i => if i < j then z i else a i)))
        case atStart => exact ⟨0, by omega, by omega, rfl, HZF⟩
        case round =>
          clear HZF
          obtain ⟨j, hj, rfl, rfl, HR⟩ := hrel
          by_cases hlt2 : j < k + 2
          · have hc := HR.out.cell j hlt2
            rw [if_neg (Nat.lt_irrefl j)] at hc
            have hfree := HR.out.free j
            by_cases hj0 : j = 0
            · subst hj0
              have d2 : decide (((a 0).size : Int) < (P : Int)) = true := by simp; omega
              have HR2 := Lib.hid (HR.out.congr (f' := fun i => if i < 0 + 1 then z i else a i) (fun i hi => by
                by_cases e : i = 0
                · subst e; simp [hz0]
                · rw [if_neg (by omega), if_neg (by omega)]))
              clear HR hz0
              go_wp2_with fail
              go_roundg (k + 1)
              case measure => omega
              case rel => exact ⟨1, by omega, by omega, by go_num, HR2⟩
            · have hge : P ≤ (a j).size := by
                by_cases e : j ≤ k
                · have := (HSZ.out j (by omega) e).1; omega
                · obtain rfl : j = k + 1 := by omega
                  omega
              have d2 : decide (((a j).size : Int) < (P : Int)) = false := by simp; omega
              have hzj := HZ.out j (by omega) (by omega)
              have HR2 := Lib.hid ((HR.out.put j hlt2 (z j)).congr (f' := fun i => if i < j + 1 then z i else a i) (fun i hi => by
                by_cases e : i = j
                · subst e; simp
                · simp only [if_neg e]
                  by_cases e2 : i < j
                  · rw [if_pos e2, if_pos (by omega)]
                  · rw [if_neg e2, if_neg (by omega)]))
              clear HR
              go_wp2_with fail
              go_roundg (k + 2 - (j + 1))
              case measure => omega
              case rel => exact ⟨j + 1, by omega, by omega, by go_num, HR2⟩
          · obtain rfl : j = k + 2 := by omega
            have HR1 := Lib.hid (HR.out.congr (f' := z) (fun i hi => by simp [hi]))
            clear HR
            go_wp2_with fail
            have q0 := HR1.out.cell 0 (by omega)
            refine wp_loop_rounds 2 ?_
            rw [rounds_succ]
            go_wp2_with fail
            refine (HB0.out _).mono ?_
            rintro x W2 ⟨rfl, hb⟩
            have HR2 := Lib.hid (HR1.out.later hb)
            clear hb q0 HR1
            go_wp2_with fail
            have q1 := HR2.out.cell 1 (by omega)
            rw [rounds_succ]
            go_wp2_with fail
            refine (HBM.out 1 (by omega) (by omega) _).mono ?_
            rintro x W3 ⟨rfl, hb⟩
            have HR3 := Lib.hid (HR2.out.later hb)
            clear hb q1 HR2
            have qk : W3.cell? ⟨g, 1 + k, none⟩ = some (.string (z (k + 1))) := by rw [Nat.add_comm]; exact HR3.out.cell (k + 1) (by omega)
            go_wp2_with fail
            refine wp_loop_rounds 2 ?_
            rw [rounds_succ]
            go_wp2_with fail
            refine (HBZ.out _).mono ?_
            rintro x W4 ⟨rfl, hb⟩
            have HR4 := Lib.hid (HR3.out.later hb)
            clear hb qk HR3
            go_wp2_with fail
            go_region_law (refine step_append_room rfl (.tmp 89) (.tmp 93) 22 rfl 9 i0 1 Tryz.underlying22 hi0 hz1 g 1 k (cap - 1) (by simp [Act.eval, Act.put]) A 0 (cap - 1 - (k + 1)) [] (by simp [Act.eval, Act.put]) rfl (fun j u hj => by simp at hj) (fun u hu => by simp at hu) hroom (fun j hj => by simp at hj) ?_)
            all_goals
              rw [show W4.drew.setCells g (1 + k) [] = W4.drew from rfl]
              have HR5 := Lib.hid HR4.out.drew
              have qk2 : W4.drew.cell? ⟨g, 1 + (k - 1), none⟩ = some (.string (z k)) := by rw [show 1 + (k - 1) = k by omega]; exact HR5.out.cell k (by omega)
              have hp3 : ((k : Int) - 1).toNat = k - 1 := by omega
              generalize W4.drew = W5 at *
              go_wp2_with fail
              rw [rounds_succ]
              go_wp2_with fail
              refine (HBM.out k (by omega) (by omega) _).mono ?_
              rintro x W6 ⟨rfl, hb⟩
              have HR6 := Lib.hid (HR5.out.later hb)
              clear hb qk2 HR4
              go_wp2_with fail
              refine (HJ.out W6 g (cap - 1) HR6.out.cell HR6.out.hi (by omega)).mono ?_
              rintro x W7 ⟨rfl, hb⟩
              have HB7 := Lib.hid (HR6.out.below.trans (hb.mono HR6.out.below.size))
              clear hb
              go_wp2_with fail
              go_ret
              exact ⟨rfl, HB7.out⟩

end Go.Proofs.YthmdgegaejanaaaGreatDoor
