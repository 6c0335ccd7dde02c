/- THE REFERENCE's LEXER: one token of one byte: digits, names, a comment; lexed. -/
import Derived.Test.YthmdgegaejanaaaGreatDoorSpecH
namespace Go.Proofs.YthmdgegaejanaaaGreatDoor
open Go.RowKit

set_option maxHeartbeats 3200000 in
set_option maxRecDepth 100000 in
theorem token_digit {w : World} {g : Nat} {s : ByteArray} (hx : Lx w g s ((0 : Nat) : Int) (.slice none 0 0) false false) (h1 : s.size = 1) (h : Digit (ch s.data.toList 0)) :
    Calls Tryz.prog 24 #[.pointer (some ⟨g, 0, none⟩)] w fun x w' => x = .returned (.tuple #[]) ∧ Added w w' g s 16 s := by
  obtain ⟨c0, c1, c2, c3, c4⟩ := hx.cells
  have hb := ch_byte s 0 (by omega)
  have h0 : 0 < s.size := by omega
  have HF := Lib.hid (fun w => starts_no s ⟨#[239, 187, 191]⟩ 0 w (by omega) (by omega) (by rfl) (by rw [show ch (⟨#[239, 187, 191]⟩ : ByteArray).data.toList 0 = 239 by decide]; unfold Digit at h; omega))
  have HD := Lib.hid (fun w => starts_no s ⟨#[46, 46, 46]⟩ 0 w (by omega) (by omega) (by rfl) (by rw [show ch (⟨#[46, 46, 46]⟩ : ByteArray).data.toList 0 = 46 by decide]; unfold Digit at h; omega))
  have HM := Lib.hid (fun W (hW : Lx W g s ((0 : Nat) : Int) (.slice none 0 0) false false) => number_one hW h1 h)
  rw [hb] at h
  have HS := Lib.hid (fun w => sign_no (s[0].toNat : Int) w (by unfold Sign; unfold Digit at h; omega))
  have HB := Lib.hid (fun w => isBegin_no (s[0].toNat : Int) w (by unfold Begin; unfold Digit at h; omega))
  have HG := Lib.hid (fun w => isDigit_yes (s[0].toNat : Int) w h)
  unfold Digit at h
  have b32 : ((s[0].toNat : Int) == 32) = false := by simp; omega
  have b9 : ((s[0].toNat : Int) == 9) = false := by simp; omega
  have b10 : ((s[0].toNat : Int) == 10) = false := by simp; omega
  have b13 : ((s[0].toNat : Int) == 13) = false := by simp; omega
  have b44 : ((s[0].toNat : Int) == 44) = false := by simp; omega
  have b35 : ((s[0].toNat : Int) == 35) = false := by simp; omega
  have b45 : ((s[0].toNat : Int) == 45) = false := by simp; omega
  have HX := Lib.hid hx
  clear hx hb h
  go_enter Tryz.func24, Tryz.ntmps24
  go_wp2_with fail
  go_quiet (fail)
  go_wp2_with fail
  go_quiet ((go_at_call 33; first | exact quiet_add_left (HF.out _) | exact quiet_left (HF.out _)))
  go_wp2_with fail
  go_quiet ((go_at_call 33; first | exact quiet_add_left (HD.out _) | exact quiet_left (HD.out _)))
  go_wp2_with (first | (go_at_call 36; refine (HS.out _).mono ?_; rintro x w' ⟨rfl, rfl⟩) | (go_at_call 37; refine (HB.out _).mono ?_; rintro x w' ⟨rfl, rfl⟩) | (go_at_call 39; refine (HG.out _).mono ?_; rintro x w' ⟨rfl, rfl⟩))
  refine (HM.out _ (HX.out.drewN _)).mono ?_
  rintro x w' ⟨rfl, hr, hg⟩
  go_wp2_with fail
  go_returns
  exact ⟨rfl, hr, ⟨hg.os, hg.tape, hg.output, hg.size, hg.block⟩⟩

set_option maxHeartbeats 3200000 in
set_option maxRecDepth 100000 in
theorem token_letter {w : World} {g : Nat} {s : ByteArray} (hx : Lx w g s ((0 : Nat) : Int) (.slice none 0 0) false false) (h1 : s.size = 1) (h : Begin (ch s.data.toList 0)) :
    Calls Tryz.prog 24 #[.pointer (some ⟨g, 0, none⟩)] w fun x w' => x = .returned (.tuple #[]) ∧ Added w w' g s 15 s := by
  obtain ⟨c0, c1, c2, c3, c4⟩ := hx.cells
  have hb := ch_byte s 0 (by omega)
  have h0 : 0 < s.size := by omega
  have HF := Lib.hid (fun w => starts_no s ⟨#[239, 187, 191]⟩ 0 w (by omega) (by omega) (by rfl) (by rw [show ch (⟨#[239, 187, 191]⟩ : ByteArray).data.toList 0 = 239 by decide]; unfold Begin at h; omega))
  have HD := Lib.hid (fun w => starts_no s ⟨#[46, 46, 46]⟩ 0 w (by omega) (by omega) (by rfl) (by rw [show ch (⟨#[46, 46, 46]⟩ : ByteArray).data.toList 0 = 46 by decide]; unfold Begin at h; omega))
  rw [hb] at h
  have HN0 := Lib.hid (fun m => next_any (w := w.drewN m) c0 0 (by omega))
  rw [show ((0 : Int)).toNat = 0 by rfl, nx_in (by rw [len_data]; omega), hb] at HN0
  have HN1 := Lib.hid (fun m => next_any (w := w.drewN m) c0 1 (by omega))
  rw [show ((1 : Int)).toNat = 1 by rfl, nx_one h1] at HN1
  have HS := Lib.hid (fun w => sign_no (s[0].toNat : Int) w (by unfold Sign; unfold Begin at h; omega))
  have HB := Lib.hid (fun w => isBegin_yes (s[0].toNat : Int) w h)
  have HB0 := Lib.hid (fun w => isBegin_no 0 w (by unfold Begin; omega))
  have HG0 := Lib.hid (fun w => isDigit_no 0 w (by unfold Digit; omega))
  have HA := Lib.hid (fun W (hW : Lx W g s ((0 : Nat) : Int) (.slice none 0 0) false false) => add_first hW 15 1 s)
  have hext : s.extract 0 1 = s := by
    apply ByteArray.ext
    apply Array.toList_inj.1
    rw [Lib.extract_data]
    have : s.data.toList.length = 1 := by rw [len_data]; exact h1
    rw [List.drop_zero, List.take_of_length_le (by omega)]
  unfold Begin at h
  have b32 : ((s[0].toNat : Int) == 32) = false := by simp; omega
  have b9 : ((s[0].toNat : Int) == 9) = false := by simp; omega
  have b10 : ((s[0].toNat : Int) == 10) = false := by simp; omega
  have b13 : ((s[0].toNat : Int) == 13) = false := by simp; omega
  have b44 : ((s[0].toNat : Int) == 44) = false := by simp; omega
  have b35 : ((s[0].toNat : Int) == 35) = false := by simp; omega
  have HX := Lib.hid hx
  clear hx hb h
  go_enter Tryz.func24, Tryz.ntmps24
  go_wp2_with fail
  go_quiet (fail)
  go_wp2_with fail
  go_quiet ((go_at_call 33; first | exact quiet_add_left (HF.out _) | exact quiet_left (HF.out _)))
  go_wp2_with fail
  go_quiet ((go_at_call 33; first | exact quiet_add_left (HD.out _) | exact quiet_left (HD.out _)))
  go_wp2_with (first | (go_at_call 36; refine (HS.out _).mono ?_; rintro x w' ⟨rfl, rfl⟩) | (go_at_call 37; refine (HB.out _).mono ?_; rintro x w' ⟨rfl, rfl⟩))
  refine wp_loop_rounds 2 ?_
  rw [rounds_succ]
  go_wp2_with fail
  refine (HN0.out _).mono ?_
  rintro x w' ⟨rfl, rfl⟩
  go_wp2_with (go_at_call 37; refine (HB.out _).mono ?_; rintro x w' ⟨rfl, rfl⟩)
  rw [rounds_succ]
  go_wp2_with fail
  refine (HN1.out _).mono ?_
  rintro x w' ⟨rfl, rfl⟩
  go_wp2_with fail
  refine (HB0.out _).mono ?_
  rintro x w' ⟨rfl, rfl⟩
  go_wp2_with fail
  refine (HN1.out _).mono ?_
  rintro x w' ⟨rfl, rfl⟩
  go_wp2_with fail
  refine (HG0.out _).mono ?_
  rintro x w' ⟨rfl, rfl⟩
  go_wp2_with fail
  go_region_with ((go_at_call 35; refine (HA.out _ (HX.out.drewN _)).mono ?_; rintro x w' ⟨rfl, hr, hg⟩))
  all_goals
    go_wp2_with fail
    go_returns
    exact ⟨rfl, hr, ⟨hg.os, hg.tape, hg.output, hg.size, hg.block⟩⟩

/-- What one call of token has to be known by, where it adds a token. -/
def Token2 (s : ByteArray) (k : Int) (v : ByteArray) : Prop := ∀ (w : World) (g : Nat), Lx w g s ((0 : Nat) : Int) (.slice none 0 0) false false →
  Calls Tryz.prog 24 #[.pointer (some ⟨g, 0, none⟩)] w fun x w' => x = .returned (.tuple #[]) ∧ Added w w' g s k v

set_option maxHeartbeats 3200000 in
set_option maxRecDepth 100000 in
/-- lexed, where one call of token adds the only token. -/
theorem lexed_add (s : ByteArray) (k : Int) (v : ByteArray) (h : Token2 s k v) (hs : s.size = 1) (w : World) :
    Calls Tryz.prog 21 #[.string s] w fun x w' => (∃ r cap, x = .returned (.tuple #[.slice (some ⟨r, 0, none⟩) 1 cap, .bool true, .bool true]) ∧ r < w'.heap.size ∧ w'.cell? ⟨r, 0, none⟩ = some (.int .i64 k) ∧ w'.cell? ⟨r, 1, none⟩ = some (.string v)) ∧ Below w.heap.size w w' := by
  have hl : Lx (w.alloc (.cells #[.string s, .int .i64 0, .slice none 0 0, .bool false, .bool false] 56)) w.heap.size s 0 (.slice none 0 0) false false := Blk.new w 56 _
  have HT := Lib.hid (h _ _ hl)
  clear hl h
  go_enter Tryz.func21, Tryz.ntmps21
  go_wp2_with fail
  refine wp_loop_rounds 2 ?_
  rw [rounds_succ]
  go_wp2_with fail
  refine HT.out.mono ?_
  rintro x w' ⟨rfl, ⟨r, cap, hl, hr, k0, k1⟩, hg⟩
  obtain ⟨c0, c1, c2, c3, c4⟩ := hl.cells
  have hb : Below w.heap.size w w' := below_of_only ((Below.refl _ w).alloc (Nat.le_refl _) _) hg (Nat.le_refl _) (by simp)
  have HB := Lib.hid hb
  have HK := Lib.hid (And.intro hr (And.intro k0 k1))
  clear hb hg hl hr k0 k1
  go_wp2_with fail
  rw [rounds_succ]
  go_wp2_with fail
  go_quiet (fail)
  go_wp2_with fail
  go_ret3
  exact ⟨⟨r, cap, rfl, HK.out⟩, below_drewN HB.out _⟩

end Go.Proofs.YthmdgegaejanaaaGreatDoor
