/- THE REFERENCE's LEXER: strings that are refused. -/
import Derived.Test.YthmdgegaejanaaaGreatDoorSpecD
namespace Go.Proofs.YthmdgegaejanaaaGreatDoor
open Go.RowKit

def EscapedS (c : Int) : Prop := c = 34 ∨ c = 47 ∨ c = 92 ∨ c = 98 ∨ c = 102 ∨ c = 110 ∨ c = 114 ∨ c = 116 ∨ c = 117

set_option maxHeartbeats 3200000 in
set_option maxRecDepth 100000 in
/-- escape, where a sign stands that means nothing behind a backslash. -/
theorem escape_bad {w : World} {g : Nat} {s : ByteArray} (hc : w.cell? ⟨g, 0, none⟩ = some (.string s)) (c : Int) (e2 : ch s.data.toList 2 = c) (h : 2 < s.size) (hb : ¬ EscapedS c) :
    Calls Tryz.prog 57 #[.pointer (some ⟨g, 0, none⟩), .int .i64 1] w fun x w' => x = .returned (.tuple #[.string ⟨#[]⟩, .int .i64 0]) ∧ w = w' := by
  have HX := Lib.hid (next_any hc 2 (by omega))
  rw [show ((2 : Int)).toNat = 2 by rfl, nx_in (by rw [len_data]; omega), e2] at HX
  unfold EscapedS at hb
  have b1 : ((((⟨#[34, 92, 47, 98, 102, 110, 114, 116]⟩ : ByteArray)[0]'(by decide)).toNat : Int) == c) = false := by
    show ((34 : Int) == c) = false
    simp; omega
  have b2 : ((((⟨#[34, 92, 47, 98, 102, 110, 114, 116]⟩ : ByteArray)[1]'(by decide)).toNat : Int) == c) = false := by
    show ((92 : Int) == c) = false
    simp; omega
  have b3 : ((((⟨#[34, 92, 47, 98, 102, 110, 114, 116]⟩ : ByteArray)[2]'(by decide)).toNat : Int) == c) = false := by
    show ((47 : Int) == c) = false
    simp; omega
  have b4 : ((((⟨#[34, 92, 47, 98, 102, 110, 114, 116]⟩ : ByteArray)[3]'(by decide)).toNat : Int) == c) = false := by
    show ((98 : Int) == c) = false
    simp; omega
  have b5 : ((((⟨#[34, 92, 47, 98, 102, 110, 114, 116]⟩ : ByteArray)[4]'(by decide)).toNat : Int) == c) = false := by
    show ((102 : Int) == c) = false
    simp; omega
  have b6 : ((((⟨#[34, 92, 47, 98, 102, 110, 114, 116]⟩ : ByteArray)[5]'(by decide)).toNat : Int) == c) = false := by
    show ((110 : Int) == c) = false
    simp; omega
  have b7 : ((((⟨#[34, 92, 47, 98, 102, 110, 114, 116]⟩ : ByteArray)[6]'(by decide)).toNat : Int) == c) = false := by
    show ((114 : Int) == c) = false
    simp; omega
  have b8 : ((((⟨#[34, 92, 47, 98, 102, 110, 114, 116]⟩ : ByteArray)[7]'(by decide)).toNat : Int) == c) = false := by
    show ((116 : Int) == c) = false
    simp; omega
  have b9 : (c != 117) = true := by rw [bne_iff_ne]; omega
  clear hb e2 h
  go_enter Tryz.func57, Tryz.ntmps57
  go_wp2_with fail
  refine HX.out.mono ?_
  rintro x w' ⟨rfl, rfl⟩
  go_wp2_with fail
  refine wp_loop_rounds 9 ?_
  iterate 9
    rw [rounds_succ]
    go_wp2_with fail
  go_ret2
  exact ⟨rfl, rfl⟩

set_option maxHeartbeats 3200000 in
set_option maxRecDepth 100000 in
theorem text_esc {w : World} {g : Nat} {s : ByteArray} {out : Value} {unsure : Bool} (hx : Lx w g s 0 out false unsure) (hn : s.size ≤ 4611686018427387904) (h : 2 < s.size) (e1 : ch s.data.toList 1 = 92) (c : Int) (e2 : ch s.data.toList 2 = c) (hb : ¬ EscapedS c) :
    Calls Tryz.prog 42 #[.pointer (some ⟨g, 0, none⟩)] w fun x w' => x = .returned (.tuple #[]) ∧ Lx w' g s 0 out true unsure ∧ w.grownBy w' (some g) := by
  obtain ⟨c0, c1, c2, c3, c4⟩ := hx.cells
  have HE := Lib.hid (escape_bad c0 c e2 h hb)
  have HF := Lib.hid (fail_any c3 (Blk.frozen hx 3))
  rw [ch_byte s 1 (by omega)] at e1
  have HX := Lib.hid hx
  clear hx e2 hb
  go_enter Tryz.func42, Tryz.ntmps42
  go_wp2_with fail
  refine wp_loop_rounds 1 ?_
  rw [rounds_succ]
  go_wp2_with fail
  refine HE.out.mono ?_
  rintro x w' ⟨rfl, rfl⟩
  go_wp2_with fail
  refine HF.out.mono ?_
  rintro x w' ⟨rfl, rfl⟩
  go_wp2_with fail
  go_returns
  exact ⟨rfl, HX.out.fail, only_setCell (World.grownBy.refl w _) (.inl rfl) _⟩

set_option maxHeartbeats 3200000 in
set_option maxRecDepth 100000 in
/-- text, where the text ends behind the quotation mark. -/
theorem text_end {w : World} {g : Nat} {s : ByteArray} {out : Value} {unsure : Bool} (hx : Lx w g s 0 out false unsure) (h : s.size = 1) :
    Calls Tryz.prog 42 #[.pointer (some ⟨g, 0, none⟩)] w fun x w' => x = .returned (.tuple #[]) ∧ Lx w' g s 0 out true unsure ∧ w.grownBy w' (some g) := by
  obtain ⟨c0, c1, c2, c3, c4⟩ := hx.cells
  have HF := Lib.hid (fail_any c3 (Blk.frozen hx 3))
  have HX := Lib.hid hx
  clear hx
  go_enter Tryz.func42, Tryz.ntmps42
  go_wp2_with fail
  refine wp_loop_rounds 1 ?_
  rw [rounds_succ]
  go_wp2_with fail
  refine HF.out.mono ?_
  rintro x w' ⟨rfl, rfl⟩
  go_wp2_with fail
  go_returns
  exact ⟨rfl, HX.out.fail, only_setCell (World.grownBy.refl w _) (.inl rfl) _⟩

set_option maxHeartbeats 3200000 in
set_option maxRecDepth 100000 in
/-- token, where a quotation mark stands and not three. -/
theorem token_text {w : World} {g : Nat} {s : ByteArray} {i : Nat} {out : Value} {unsure : Bool} (hx : Lx w g s i out false unsure) (hn : s.size ≤ 4611686018427387904) (hi : i < s.size)
    (hc : ch s.data.toList i = 34) (k : Nat) (hk : k < 3) (hd : ch s.data.toList (i + k) ≠ 34)
    (hT : ∀ W : World, Lx W g s i out false unsure → Calls Tryz.prog 42 #[.pointer (some ⟨g, 0, none⟩)] W fun x w' => x = .returned (.tuple #[]) ∧ Lx w' g s i out true unsure ∧ W.grownBy w' (some g)) :
    Calls Tryz.prog 24 #[.pointer (some ⟨g, 0, none⟩)] w fun x w' => x = .returned (.tuple #[]) ∧ Lx w' g s i out true unsure ∧ w.grownBy w' (some g) := by
  obtain ⟨c0, c1, c2, c3, c4⟩ := hx.cells
  have hb := ch_byte s i hi
  rw [hc] at hb
  have HF := Lib.hid (fun w => starts_no s ⟨#[239, 187, 191]⟩ i w hn hi (by rfl) (by rw [show ch (⟨#[239, 187, 191]⟩ : ByteArray).data.toList 0 = 239 by decide, hc]; omega))
  have HD := Lib.hid (fun w => starts_no s ⟨#[46, 46, 46]⟩ i w hn hi (by rfl) (by rw [show ch (⟨#[46, 46, 46]⟩ : ByteArray).data.toList 0 = 46 by decide, hc]; omega))
  have HQ := Lib.hid (fun w => starts_not s ⟨#[34, 34, 34]⟩ i k w hn hi (by rfl) hk (by rw [show ch (⟨#[34, 34, 34]⟩ : ByteArray).data.toList k = 34 by match k, hk with | 0, _ => decide | 1, _ => decide | 2, _ => decide]; exact hd))
  have HS := Lib.hid (fun w => sign_no (s[i].toNat : Int) w (by rw [← hb]; unfold Sign; omega))
  have HB := Lib.hid (fun w => isBegin_no (s[i].toNat : Int) w (by rw [← hb]; unfold Begin; omega))
  have HG := Lib.hid (fun w => isDigit_no (s[i].toNat : Int) w (by rw [← hb]; unfold Digit; omega))
  have HM := Lib.hid (fun W (hW : Lx W g s i out false unsure) => hT W hW)
  have b32 : ((s[i].toNat : Int) == 32) = false := by simp; omega
  have b9 : ((s[i].toNat : Int) == 9) = false := by simp; omega
  have b10 : ((s[i].toNat : Int) == 10) = false := by simp; omega
  have b13 : ((s[i].toNat : Int) == 13) = false := by simp; omega
  have b44 : ((s[i].toNat : Int) == 44) = false := by simp; omega
  have b35 : ((s[i].toNat : Int) == 35) = false := by simp; omega
  have b45 : ((s[i].toNat : Int) == 45) = false := by simp; omega
  have b34 : ((s[i].toNat : Int) == 34) = true := by simp; omega
  have HX := Lib.hid hx
  clear hx hb hc hd hT
  go_enter Tryz.func24, Tryz.ntmps24
  go_wp2_with fail
  go_quiet (fail)
  go_wp2_with fail
  go_quiet ((go_at_call 33; first | exact quiet_add_left (HF.out _) | exact quiet_left (HF.out _)))
  go_wp2_with fail
  go_quiet ((go_at_call 33; first | exact quiet_add_left (HD.out _) | exact quiet_left (HD.out _)))
  go_wp2_with (first | (go_at_call 36; refine (HS.out _).mono ?_; rintro x w' ⟨rfl, rfl⟩) | (go_at_call 37; refine (HB.out _).mono ?_; rintro x w' ⟨rfl, rfl⟩) | (go_at_call 39; refine (HG.out _).mono ?_; rintro x w' ⟨rfl, rfl⟩))
  go_quiet ((go_at_call 33; first | exact quiet_add_left (HQ.out _) | exact quiet_left (HQ.out _)))
  go_wp2_with fail
  refine (HM.out _ (HX.out.drewN _)).mono ?_
  rintro x w' ⟨rfl, hl, hg⟩
  go_wp2_with fail
  go_returns
  exact ⟨rfl, hl, ⟨hg.os, hg.tape, hg.output, hg.size, hg.block⟩⟩

end Go.Proofs.YthmdgegaejanaaaGreatDoor
