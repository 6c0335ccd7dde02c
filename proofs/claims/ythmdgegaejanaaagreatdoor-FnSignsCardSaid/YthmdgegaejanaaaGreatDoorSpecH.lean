/- THE REFERENCE's LEXER: one token of one byte. -/
import Derived.Test.YthmdgegaejanaaaGreatDoorSpecG
import Derived.Test.YthmdgegaejanaaaGreatDoorSpecB
import Derived.StillTailTactics
namespace Go.Proofs.YthmdgegaejanaaaGreatDoor
open Go.RowKit

/-- One call of token adds this token. -/
def Added (w w' : World) (g : Nat) (s : ByteArray) (k : Int) (v : ByteArray) : Prop :=
  (∃ r cap, Lx w' g s 1 (.slice (some ⟨r, 0, none⟩) 1 cap) false false ∧ r < w'.heap.size ∧ w'.cell? ⟨r, 0, none⟩ = some (.int .i64 k) ∧ w'.cell? ⟨r, 1, none⟩ = some (.string v)) ∧ w.grownBy w' (some g)

def SignTo (c k : Int) : Prop := (c = 33 ∧ k = 2) ∨ (c = 36 ∧ k = 3) ∨ (c = 38 ∧ k = 20) ∨ (c = 40 ∧ k = 4) ∨ (c = 41 ∧ k = 5) ∨ (c = 58 ∧ k = 7) ∨ (c = 61 ∧ k = 8) ∨ (c = 64 ∧ k = 9) ∨ (c = 91 ∧ k = 10) ∨ (c = 93 ∧ k = 11) ∨ (c = 123 ∧ k = 12) ∨ (c = 124 ∧ k = 13) ∨ (c = 125 ∧ k = 14)
theorem sign_to (c k : Int) (h : SignTo c k) (w : World) : Calls Tryz.prog 36 #[.int .u8 c] w fun x w' => x = .returned (.int .i64 k) ∧ w = w' := by
  rcases h with ⟨rfl, rfl⟩ | ⟨rfl, rfl⟩ | ⟨rfl, rfl⟩ | ⟨rfl, rfl⟩ | ⟨rfl, rfl⟩ | ⟨rfl, rfl⟩ | ⟨rfl, rfl⟩ | ⟨rfl, rfl⟩ | ⟨rfl, rfl⟩ | ⟨rfl, rfl⟩ | ⟨rfl, rfl⟩ | ⟨rfl, rfl⟩ | ⟨rfl, rfl⟩
  · exact sign_33 w
  · exact sign_36 w
  · exact sign_38 w
  · exact sign_40 w
  · exact sign_41 w
  · exact sign_58 w
  · exact sign_61 w
  · exact sign_64 w
  · exact sign_91 w
  · exact sign_93 w
  · exact sign_123 w
  · exact sign_124 w
  · exact sign_125 w

set_option maxHeartbeats 3200000 in
set_option maxRecDepth 100000 in
theorem token_sign {w : World} {g : Nat} {s : ByteArray} (hx : Lx w g s ((0 : Nat) : Int) (.slice none 0 0) false false) (h1 : s.size = 1) (c k : Int) (hc : ch s.data.toList 0 = c) (h : SignTo c k) :
    Calls Tryz.prog 24 #[.pointer (some ⟨g, 0, none⟩)] w fun x w' => x = .returned (.tuple #[]) ∧ Added w w' g s k ⟨#[]⟩ := by
  obtain ⟨c0, c1, c2, c3, c4⟩ := hx.cells
  have hb := ch_byte s 0 (by omega)
  rw [hc] at hb
  have h0 : 0 < s.size := by omega
  have HF := Lib.hid (fun w => starts_no s ⟨#[239, 187, 191]⟩ 0 w (by omega) (by omega) (by rfl) (by rw [show ch (⟨#[239, 187, 191]⟩ : ByteArray).data.toList 0 = 239 by decide, hc]; unfold SignTo at h; omega))
  have HD := Lib.hid (fun w => starts_no s ⟨#[46, 46, 46]⟩ 0 w (by omega) (by omega) (by rfl) (by rw [show ch (⟨#[46, 46, 46]⟩ : ByteArray).data.toList 0 = 46 by decide, hc]; unfold SignTo at h; omega))
  have HS := Lib.hid (fun w => sign_to (s[0].toNat : Int) k (by rw [← hb]; exact h) w)
  have HA := Lib.hid (fun W (hW : Lx W g s ((0 : Nat) : Int) (.slice none 0 0) false false) => add_first hW k 1 ⟨#[]⟩)
  have hk : decide (0 < k) = true := by unfold SignTo at h; simp; omega
  unfold SignTo at h
  have b32 : ((s[0].toNat : Int) == 32) = false := by simp; omega
  have b9 : ((s[0].toNat : Int) == 9) = false := by simp; omega
  have b10 : ((s[0].toNat : Int) == 10) = false := by simp; omega
  have b13 : ((s[0].toNat : Int) == 13) = false := by simp; omega
  have b44 : ((s[0].toNat : Int) == 44) = false := by simp; omega
  have b35 : ((s[0].toNat : Int) == 35) = false := by simp; omega
  have HX := Lib.hid hx
  clear hx hb hc h
  go_enter Tryz.func24, Tryz.ntmps24
  go_wp2_with fail
  go_quiet (fail)
  go_wp2_with fail
  go_quiet ((go_at_call 33; first | exact quiet_add_left (HF.out _) | exact quiet_left (HF.out _)))
  go_wp2_with fail
  go_quiet ((go_at_call 33; first | exact quiet_add_left (HD.out _) | exact quiet_left (HD.out _)))
  go_wp2_with (first | (go_at_call 36; refine (HS.out _).mono ?_; rintro x w' ⟨rfl, rfl⟩))
  go_region_with ((first | (go_at_call 36; refine (HS.out _).mono ?_; rintro x w' ⟨rfl, rfl⟩) | (go_at_call 35; refine (HA.out _ (HX.out.drewN _)).mono ?_; rintro x w' ⟨rfl, hr, hg⟩)))
  all_goals
    go_wp2_with fail
    go_returns
    exact ⟨rfl, hr, ⟨hg.os, hg.tape, hg.output, hg.size, hg.block⟩⟩

set_option maxHeartbeats 3200000 in
set_option maxRecDepth 100000 in
/-- Something that is passed over. -/
theorem token_white {w : World} {g : Nat} {s : ByteArray} (hx : Lx w g s ((0 : Nat) : Int) (.slice none 0 0) false false) (h1 : s.size = 1) (hc : White (ch s.data.toList 0)) :
    Calls Tryz.prog 24 #[.pointer (some ⟨g, 0, none⟩)] w fun x w' => x = .returned (.tuple #[]) ∧ Lx w' g s ((1 : Nat) : Int) (.slice none 0 0) false false ∧ w.grownBy w' (some g) := by
  obtain ⟨c0, c1, c2, c3, c4⟩ := hx.cells
  have hb := ch_byte s 0 (by omega)
  have h0 : 0 < s.size := by omega
  have f1 := Blk.frozen hx 1
  have HX := Lib.hid hx
  unfold White at hc
  rw [hb] at hc
  clear hx hb
  rcases hc with hc | hc | hc | hc | hc
  all_goals
    go_enter Tryz.func24, Tryz.ntmps24
    go_wp2_with fail
    go_quiet (fail)
    go_wp2_with fail
    go_returns
    exact ⟨rfl, (HX.out.drewN _).goto_ 1, only_setCell (only_drewN (World.grownBy.refl w _) _) (.inl rfl) _⟩

/-- Where next goes in a text of one byte. -/
theorem nx_one {s : ByteArray} (h1 : s.size = 1) : nx s.data.toList 1 = 0 := nx_out (by rw [len_data]; omega)

set_option maxHeartbeats 3200000 in
set_option maxRecDepth 100000 in
/-- number, where one digit stands. -/
theorem number_one {w : World} {g : Nat} {s : ByteArray} (hx : Lx w g s ((0 : Nat) : Int) (.slice none 0 0) false false) (h1 : s.size = 1) (hd : Digit (ch s.data.toList 0)) :
    Calls Tryz.prog 40 #[.pointer (some ⟨g, 0, none⟩)] w fun x w' => x = .returned (.tuple #[]) ∧ Added w w' g s 16 s := by
  obtain ⟨c0, c1, c2, c3, c4⟩ := hx.cells
  have HN := Lib.hid (numeral_one c0 (by omega) 0 (by omega) hd)
  rw [show (((0 : Nat) : Int) + 1) = 1 by rfl, show ((0 : Nat) : Int) = 0 by rfl] at HN
  have HX1 := Lib.hid (next_any c0 1 (by omega))
  rw [show ((1 : Int)).toNat = 1 by rfl, nx_one h1] at HX1
  have HB := Lib.hid (fun w => isBegin_no 0 w (by unfold Begin; omega))
  have HA := Lib.hid (fun W (hW : Lx W g s ((0 : Nat) : Int) (.slice none 0 0) false false) => add_first hW 16 1 s)
  have hext : s.extract 0 1 = s := by
    apply ByteArray.ext
    apply Array.toList_inj.1
    rw [Lib.extract_data]
    have : s.data.toList.length = 1 := by rw [len_data]; exact h1
    rw [List.drop_zero, List.take_of_length_le (by omega)]
  have HX := Lib.hid hx
  clear hx hd
  go_enter Tryz.func40, Tryz.ntmps40
  go_wp2_with fail
  refine HN.out.mono ?_
  rintro x w' ⟨rfl, rfl⟩
  go_wp2_with fail
  refine HX1.out.mono ?_
  rintro x w' ⟨rfl, rfl⟩
  go_wp2_with (go_at_call 37; refine (HB.out _).mono ?_; rintro x w' ⟨rfl, rfl⟩)
  go_region_with ((go_at_call 35; refine (HA.out _ (HX.out.drewN _)).mono ?_; rintro x w' ⟨rfl, hr, hg⟩))
  all_goals
    go_wp2_with fail
    go_returns
    exact ⟨rfl, hr, ⟨hg.os, hg.tape, hg.output, hg.size, hg.block⟩⟩

end Go.Proofs.YthmdgegaejanaaaGreatDoor
