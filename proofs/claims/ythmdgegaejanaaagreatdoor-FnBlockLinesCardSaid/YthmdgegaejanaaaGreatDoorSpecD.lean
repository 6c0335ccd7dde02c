/- THE REFERENCE's LEXER: one token. -/
import Derived.Test.YthmdgegaejanaaaGreatDoorSpecC
namespace Go.Proofs.YthmdgegaejanaaaGreatDoor
open Go.RowKit

set_option maxHeartbeats 3200000 in
set_option maxRecDepth 100000 in
/-- token, where a minus sign or a digit stands and no numeral. -/
theorem token_num_bad {w : World} {g : Nat} {s : ByteArray} {i : Nat} {out : Value} {unsure : Bool} (hx : Lx w g s i out false unsure) (hn : s.size ≤ 4611686018427387904) (hi : i < s.size)
    (h : ch s.data.toList i = 45 ∨ Digit (ch s.data.toList i))
    (hN : ∀ W : World, Lx W g s i out false unsure → Calls Tryz.prog 54 #[.pointer (some ⟨g, 0, none⟩), .int .i64 (i : Int)] W fun x w' => x = .returned (.tuple #[.int .i64 0, .int .i64 0]) ∧ W = w') :
    Calls Tryz.prog 24 #[.pointer (some ⟨g, 0, none⟩)] w fun x w' => x = .returned (.tuple #[]) ∧ Lx w' g s i out true unsure ∧ w.grownBy w' (some g) := by
  obtain ⟨c0, c1, c2, c3, c4⟩ := hx.cells
  have hb := ch_byte s i hi
  have HF := Lib.hid (fun w => starts_no s ⟨#[239, 187, 191]⟩ i w hn hi (by rfl) (by rw [show ch (⟨#[239, 187, 191]⟩ : ByteArray).data.toList 0 = 239 by decide]; unfold Digit at h; omega))
  have HD := Lib.hid (fun w => starts_no s ⟨#[46, 46, 46]⟩ i w hn hi (by rfl) (by rw [show ch (⟨#[46, 46, 46]⟩ : ByteArray).data.toList 0 = 46 by decide]; unfold Digit at h; omega))
  have HS := Lib.hid (fun w => sign_no (s[i].toNat : Int) w (by rw [← hb]; unfold Sign; unfold Digit at h; omega))
  have HB := Lib.hid (fun w => isBegin_no (s[i].toNat : Int) w (by rw [← hb]; unfold Begin; unfold Digit at h; omega))
  have HM := Lib.hid (fun W (hW : Lx W g s i out false unsure) => number_bad hW (hN W hW))
  rw [hb] at h
  have b32 : ((s[i].toNat : Int) == 32) = false := by unfold Digit at h; simp; omega
  have b9 : ((s[i].toNat : Int) == 9) = false := by unfold Digit at h; simp; omega
  have b10 : ((s[i].toNat : Int) == 10) = false := by unfold Digit at h; simp; omega
  have b13 : ((s[i].toNat : Int) == 13) = false := by unfold Digit at h; simp; omega
  have b44 : ((s[i].toNat : Int) == 44) = false := by unfold Digit at h; simp; omega
  have b35 : ((s[i].toNat : Int) == 35) = false := by unfold Digit at h; simp; omega
  have hcase : ((s[i].toNat : Int) == 45) = true ∨ (((s[i].toNat : Int) == 45) = false ∧ Hid (Digit (s[i].toNat : Int))) := by
    rcases h with h | h
    · exact .inl (by simpa using h)
    · exact .inr ⟨by unfold Digit at h; simp; omega, h⟩
  clear h hb hN
  have HX := Lib.hid hx
  clear hx
  rcases hcase with b45 | ⟨b45, hdig⟩
  · go_enter Tryz.func24, Tryz.ntmps24
    go_wp2_with fail
    go_quiet (fail)
    go_wp2_with fail
    go_quiet ((go_at_call 33; first | exact quiet_add_left (HF.out _) | exact quiet_left (HF.out _)))
    go_wp2_with fail
    go_quiet ((go_at_call 33; first | exact quiet_add_left (HD.out _) | exact quiet_left (HD.out _)))
    go_wp2_with (first | (go_at_call 36; refine (HS.out _).mono ?_; rintro x w' ⟨rfl, rfl⟩) | (go_at_call 37; refine (HB.out _).mono ?_; rintro x w' ⟨rfl, rfl⟩))
    refine (HM.out _ (HX.out.drewN _)).mono ?_
    rintro x w' ⟨rfl, rfl⟩
    go_wp2_with fail
    go_returns
    exact ⟨rfl, (HX.out.drewN _).fail, only_setCell (only_drewN (World.grownBy.refl w _) _) (.inl rfl) _⟩
  · have HG := Lib.hid (fun w => isDigit_yes (s[i].toNat : Int) w hdig.out)
    clear hdig
    go_enter Tryz.func24, Tryz.ntmps24
    go_wp2_with fail
    go_quiet (fail)
    go_wp2_with fail
    go_quiet ((go_at_call 33; first | exact quiet_add_left (HF.out _) | exact quiet_left (HF.out _)))
    go_wp2_with fail
    go_quiet ((go_at_call 33; first | exact quiet_add_left (HD.out _) | exact quiet_left (HD.out _)))
    go_wp2_with (first | (go_at_call 36; refine (HS.out _).mono ?_; rintro x w' ⟨rfl, rfl⟩) | (go_at_call 37; refine (HB.out _).mono ?_; rintro x w' ⟨rfl, rfl⟩) | (go_at_call 39; refine (HG.out _).mono ?_; rintro x w' ⟨rfl, rfl⟩))
    refine (HM.out _ (HX.out.drewN _)).mono ?_
    rintro x w' ⟨rfl, rfl⟩
    go_wp2_with fail
    go_returns
    exact ⟨rfl, (HX.out.drewN _).fail, only_setCell (only_drewN (World.grownBy.refl w _) _) (.inl rfl) _⟩

set_option maxHeartbeats 1600000 in
set_option maxRecDepth 100000 in
/-- Another text of three bytes stands there: they part at place k. -/
theorem starts_not (s t : ByteArray) (i k : Nat) (w : World) (hn : s.size ≤ 4611686018427387904) (hi : i < s.size) (ht : t.size = 3) (hk : k < 3) (hne : ch s.data.toList (i + k) ≠ ch t.data.toList k) :
    Calls Tryz.prog 33 #[.string s, .int .i64 (i : Int), .string t] w fun x w' => x = .returned (.bool false) ∧ w = w' := by
  by_cases h : i + 3 ≤ s.size
  · have hx : ¬ (s.extract i (i + 3)).toList = t.toList := by
      rw [Lib.toList_data, Lib.toList_data, Lib.extract_data]
      intro e
      apply hne
      rw [← e, ch_get (by rw [len_data]; omega), ch_get (by rw [List.length_take, List.length_drop, len_data]; omega)]
      simp
    have hx2 : ((s.extract i (i + 3)).toList == t.toList) = false := by simpa using hx
    go_enter Tryz.func33, Tryz.ntmps33
    go_wp2
    go_ret
    exact ⟨rfl, rfl⟩
  · go_enter Tryz.func33, Tryz.ntmps33
    go_wp2
    go_ret
    exact ⟨rfl, rfl⟩

set_option maxHeartbeats 3200000 in
set_option maxRecDepth 100000 in
/-- token, where nothing begins that could be one. -/
theorem token_other {w : World} {g : Nat} {s : ByteArray} {i : Nat} {out : Value} {unsure : Bool} (hx : Lx w g s i out false unsure) (hn : s.size ≤ 4611686018427387904) (hi : i < s.size)
    (c : Int) (hc : ch s.data.toList i = c) (h1 : c ≠ 32 ∧ c ≠ 9 ∧ c ≠ 10 ∧ c ≠ 13 ∧ c ≠ 44 ∧ c ≠ 35) (h2 : ¬ Sign c) (h3 : ¬ Begin c) (h4 : c ≠ 45) (h5 : ¬ Digit c) (h6 : c ≠ 34) (h7 : c < 128)
    (k : Nat) (hk : k < 3) (hd : ch s.data.toList (i + k) ≠ 46) :
    Calls Tryz.prog 24 #[.pointer (some ⟨g, 0, none⟩)] w fun x w' => x = .returned (.tuple #[]) ∧ Lx w' g s i out true unsure ∧ w.grownBy w' (some g) := by
  obtain ⟨c0, c1, c2, c3, c4⟩ := hx.cells
  have hb := ch_byte s i hi
  rw [hc] at hb
  have HF := Lib.hid (fun w => starts_no s ⟨#[239, 187, 191]⟩ i w hn hi (by rfl) (by rw [show ch (⟨#[239, 187, 191]⟩ : ByteArray).data.toList 0 = 239 by decide, hc]; omega))
  have HD := Lib.hid (fun w => starts_not s ⟨#[46, 46, 46]⟩ i k w hn hi (by rfl) hk (by rw [show ch (⟨#[46, 46, 46]⟩ : ByteArray).data.toList k = 46 by match k, hk with | 0, _ => decide | 1, _ => decide | 2, _ => decide]; exact hd))
  have HQ := Lib.hid (fun w => starts_no s ⟨#[34, 34, 34]⟩ i w hn hi (by rfl) (by rw [show ch (⟨#[34, 34, 34]⟩ : ByteArray).data.toList 0 = 34 by decide, hc]; exact h6))
  have HS := Lib.hid (fun w => sign_no (s[i].toNat : Int) w (by rw [← hb]; exact h2))
  have HB := Lib.hid (fun w => isBegin_no (s[i].toNat : Int) w (by rw [← hb]; exact h3))
  have HG := Lib.hid (fun w => isDigit_no (s[i].toNat : Int) w (by rw [← hb]; exact h5))
  have HM := Lib.hid (fun W (hW : Lx W g s i out false unsure) => fail_any hW.cells.2.2.2.1 (Blk.frozen hW 3))
  have b32 : ((s[i].toNat : Int) == 32) = false := by simp; omega
  have b9 : ((s[i].toNat : Int) == 9) = false := by simp; omega
  have b10 : ((s[i].toNat : Int) == 10) = false := by simp; omega
  have b13 : ((s[i].toNat : Int) == 13) = false := by simp; omega
  have b44 : ((s[i].toNat : Int) == 44) = false := by simp; omega
  have b35 : ((s[i].toNat : Int) == 35) = false := by simp; omega
  have b45 : ((s[i].toNat : Int) == 45) = false := by simp; omega
  have b34 : ((s[i].toNat : Int) == 34) = false := by simp; omega
  have HX := Lib.hid hx
  clear hx hb h1 h2 h3 h4 h5 h6 h7 hc hd
  go_enter Tryz.func24, Tryz.ntmps24
  go_wp2_with fail
  go_quiet (fail)
  go_wp2_with fail
  go_quiet ((go_at_call 33; first | exact quiet_add_left (HF.out _) | exact quiet_left (HF.out _)))
  go_wp2_with fail
  go_quiet ((go_at_call 33; first | exact quiet_add_left (HD.out _) | exact quiet_left (HD.out _)))
  go_wp2_with (first | (go_at_call 36; refine (HS.out _).mono ?_; rintro x w' ⟨rfl, rfl⟩) | (go_at_call 37; refine (HB.out _).mono ?_; rintro x w' ⟨rfl, rfl⟩) | (go_at_call 39; refine (HG.out _).mono ?_; rintro x w' ⟨rfl, rfl⟩))
  go_quiet ((go_at_call 33; first | exact quiet_add_left (HQ.out _) | exact quiet_left (HQ.out _)))
  go_wp2_with fail
  refine (HM.out _ (HX.out.drewN _)).mono ?_
  rintro x w' ⟨rfl, rfl⟩
  go_wp2_with fail
  go_returns
  exact ⟨rfl, (HX.out.drewN _).fail, only_setCell (only_drewN (World.grownBy.refl w _) _) (.inl rfl) _⟩

/-- What one call of token has to be known by. -/
def Token1 (s : ByteArray) (i : Nat) (bad unsure : Bool) : Prop := ∀ (w : World) (g : Nat), Lx w g s 0 (.slice none 0 0) false false →
  Calls Tryz.prog 24 #[.pointer (some ⟨g, 0, none⟩)] w fun x w' => x = .returned (.tuple #[]) ∧ Lx w' g s i (.slice none 0 0) bad unsure ∧ w.grownBy w' (some g)

set_option maxHeartbeats 3200000 in
set_option maxRecDepth 100000 in
/-- lexed, where one call of token comes to the end or is refused, and adds nothing. -/
theorem lexed_one (s : ByteArray) (i : Nat) (bad unsure : Bool) (h : Token1 s i bad unsure) (hs : 0 < s.size) (hend : bad = true ∨ s.size ≤ i) (w : World) :
    Calls Tryz.prog 21 #[.string s] w fun x w' => x = .returned (.tuple #[.slice none 0 0, .bool (!bad), .bool (!unsure)]) ∧ Below w.heap.size w w' := by
  have hl : Lx (w.alloc (.cells #[.string s, .int .i64 0, .slice none 0 0, .bool false, .bool false] 56)) w.heap.size s 0 (.slice none 0 0) false false := Blk.new w 56 _
  have HT := Lib.hid (h _ _ hl)
  clear hl h
  go_enter Tryz.func21, Tryz.ntmps21
  go_wp2_with fail
  refine wp_loop_rounds 2 ?_
  rw [rounds_succ]
  go_wp2_with fail
  refine HT.out.mono ?_
  rintro x w' ⟨rfl, hl, hg⟩
  obtain ⟨c0, c1, c2, c3, c4⟩ := hl.cells
  have hb : Below w.heap.size w w' := below_of_only ((Below.refl _ w).alloc (Nat.le_refl _) _) hg (Nat.le_refl _) (by simp)
  have HB := Lib.hid hb
  clear hb hg hl
  have hcase : bad = true ∨ (bad = false ∧ s.size ≤ i) := by
    rcases hend with h | h
    · exact .inl h
    · cases bad
      · exact .inr ⟨rfl, h⟩
      · exact .inl rfl
  clear hend
  rcases hcase with rfl | ⟨rfl, hend⟩
  all_goals
    go_wp2_with fail
    rw [rounds_succ]
    go_wp2_with fail
    go_quiet (fail)
    go_wp2_with fail
    go_ret3
    exact ⟨rfl, below_drewN HB.out _⟩

end Go.Proofs.YthmdgegaejanaaaGreatDoor
