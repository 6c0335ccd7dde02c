/- THE REFERENCE's LEXER: token, lexed, Lex and sure9 at a text that is one block string: sure9 returns. -/
import Derived.Test.YthmdgegaejanaaaGreatDoorSpecP
namespace Go.Proofs.YthmdgegaejanaaaGreatDoor
open Go.RowKit

set_option maxHeartbeats 3200000 in
set_option maxRecDepth 100000 in
/-- token, where three quotation marks stand. -/
theorem token_quotes {w : World} {g : Nat} {s : ByteArray} (hx : Lx w g s ((0 : Nat) : Int) (.slice none 0 0) false false) (hn : s.size ≤ 4611686018427387904) (h3 : 3 ≤ s.size) (q0 : ch s.data.toList 0 = 34) (q1 : ch s.data.toList 1 = 34) (q2 : ch s.data.toList 2 = 34)
    (hB : ∀ W, Lx W g s ((0 : Nat) : Int) (.slice none 0 0) false false → Calls Tryz.prog 41 #[.pointer (some ⟨g, 0, none⟩)] W fun x w' => x = .returned (.tuple #[]) ∧ Done W w' g s) :
    Calls Tryz.prog 24 #[.pointer (some ⟨g, 0, none⟩)] w fun x w' => x = .returned (.tuple #[]) ∧ Done w w' g s := by
  obtain ⟨c0, c1, c2, c3, c4⟩ := hx.cells
  have hb := ch_byte s 0 (by omega)
  have h0 : 0 < s.size := by omega
  have HF := Lib.hid (fun w => starts_no s ⟨#[239, 187, 191]⟩ 0 w hn (by omega) (by rfl) (by rw [show ch (⟨#[239, 187, 191]⟩ : ByteArray).data.toList 0 = 239 by decide, q0]; omega))
  have HD := Lib.hid (fun w => starts_no s ⟨#[46, 46, 46]⟩ 0 w hn (by omega) (by rfl) (by rw [show ch (⟨#[46, 46, 46]⟩ : ByteArray).data.toList 0 = 46 by decide, q0]; omega))
  have HQ := Lib.hid (fun w => starts_quotes s 0 w hn (by omega) q0 q1 q2)
  rw [q0] at hb
  have HS := Lib.hid (fun w => sign_no (s[0].toNat : Int) w (by rw [← hb]; unfold Sign; omega))
  have HB := Lib.hid (fun w => isBegin_no (s[0].toNat : Int) w (by rw [← hb]; unfold Begin; omega))
  have HG := Lib.hid (fun w => isDigit_no (s[0].toNat : Int) w (by rw [← hb]; unfold Digit; omega))
  have HM := Lib.hid hB
  have b32 : ((s[0].toNat : Int) == 32) = false := by simp; omega
  have b9 : ((s[0].toNat : Int) == 9) = false := by simp; omega
  have b10 : ((s[0].toNat : Int) == 10) = false := by simp; omega
  have b13 : ((s[0].toNat : Int) == 13) = false := by simp; omega
  have b44 : ((s[0].toNat : Int) == 44) = false := by simp; omega
  have b35 : ((s[0].toNat : Int) == 35) = false := by simp; omega
  have b45 : ((s[0].toNat : Int) == 45) = false := by simp; omega
  have HX := Lib.hid hx
  clear hx hb q0 q1 q2 hB
  go_enter Tryz.func24, Tryz.ntmps24
  go_wp2_with fail
  go_quiet (fail)
  go_wp2_with fail
  go_quiet ((go_at_call 33; first | exact quiet_add_left (HF.out _) | exact quiet_left (HF.out _)))
  go_wp2_with fail
  go_quiet ((go_at_call 33; first | exact quiet_add_left (HD.out _) | exact quiet_left (HD.out _)))
  go_wp2_with (first | (go_at_call 36; refine (HS.out _).mono ?_; rintro x w' ⟨rfl, rfl⟩) | (go_at_call 37; refine (HB.out _).mono ?_; rintro x w' ⟨rfl, rfl⟩) | (go_at_call 39; refine (HG.out _).mono ?_; rintro x w' ⟨rfl, rfl⟩))
  go_quiet ((go_at_call 33; first | exact quiet_add_left (HQ.out _) | exact quiet_left (HQ.out _)))
  go_wp2_with fail
  refine (HM.out _ (HX.out.drewN _)).mono ?_
  rintro x w' ⟨rfl, out, u, hl, hg⟩
  have HL := Lib.hid hl
  have HG2 := Lib.hid hg
  clear hl hg
  go_wp2_with fail
  go_returns
  exact ⟨rfl, out, u, HL.out, ⟨HG2.out.os, HG2.out.tape, HG2.out.output, HG2.out.size, HG2.out.block⟩⟩

set_option maxHeartbeats 3200000 in
set_option maxRecDepth 100000 in
/-- lexed, where one call of token comes to the text's end. -/
theorem lexed_done (s : ByteArray) (h : ∀ (w : World) (g : Nat), Lx w g s ((0 : Nat) : Int) (.slice none 0 0) false false → Calls Tryz.prog 24 #[.pointer (some ⟨g, 0, none⟩)] w fun x w' => x = .returned (.tuple #[]) ∧ Done w w' g s) (hs : 0 < s.size) (w : World) :
    Calls Tryz.prog 21 #[.string s] w fun x w' => (∃ o sure, x = .returned (.tuple #[o, .bool true, .bool sure])) ∧ Below w.heap.size w w' := by
  have hl : Lx (w.alloc (.cells #[.string s, .int .i64 0, .slice none 0 0, .bool false, .bool false] 56)) w.heap.size s 0 (.slice none 0 0) false false := Blk.new w 56 _
  have HT := Lib.hid (h _ _ hl)
  clear hl h
  go_enter Tryz.func21, Tryz.ntmps21
  go_wp2_with fail
  refine wp_loop_rounds 2 ?_
  rw [rounds_succ]
  go_wp2_with fail
  refine HT.out.mono ?_
  rintro x w' ⟨rfl, out, u, hl, hg⟩
  obtain ⟨c0, c1, c2, c3, c4⟩ := hl.cells
  have hb : Below w.heap.size w w' := below_of_only ((Below.refl _ w).alloc (Nat.le_refl _) _) hg (Nat.le_refl _) (by simp)
  have HB := Lib.hid hb
  clear hb hg hl
  go_wp2_with fail
  rw [rounds_succ]
  go_wp2_with fail
  go_quiet (fail)
  go_wp2_with fail
  go_ret3
  exact ⟨⟨_, _, rfl⟩, below_drewN HB.out _⟩

set_option maxHeartbeats 1600000 in
set_option maxRecDepth 100000 in
theorem sure_some (s : ByteArray) (h : ∀ w, Calls Tryz.prog 21 #[.string s] w fun x w' => (∃ o sure, x = .returned (.tuple #[o, .bool true, .bool sure])) ∧ Below w.heap.size w w') (w : World) :
    Calls Tryz.prog 12 #[.string s] w fun x w' => (∃ b, x = .returned (.bool b)) ∧ Below w.heap.size w w' := by
  have HL : Hid (∀ w, Calls Tryz.prog 17 #[.string s] w fun x w' => (∃ o k u, x = .returned (.tuple #[o, .bool k, .bool u])) ∧ Below w.heap.size w w') := fun w => by
    have H := Lib.hid h
    clear h
    go_enter Tryz.func17, Tryz.ntmps17
    go_wp2_with fail
    refine (H.out _).mono ?_
    rintro x w' ⟨⟨o, u, rfl⟩, hb⟩
    go_wp2_with fail
    go_ret3
    exact ⟨⟨_, _, _, rfl⟩, hb⟩
  clear h
  go_enter Tryz.func12, Tryz.ntmps12
  go_wp2_with fail
  refine (HL.out _).mono ?_
  rintro x w' ⟨⟨o, k, u, rfl⟩, hb⟩
  go_wp2_with fail
  go_ret
  exact ⟨⟨_, rfl⟩, hb⟩

end Go.Proofs.YthmdgegaejanaaaGreatDoor
