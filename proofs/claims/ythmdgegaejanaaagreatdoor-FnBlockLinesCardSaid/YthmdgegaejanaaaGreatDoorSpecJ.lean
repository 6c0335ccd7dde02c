/- THE REFERENCE's LEXER: a number sign alone. -/
import Derived.Test.YthmdgegaejanaaaGreatDoorSpecD
namespace Go.Proofs.YthmdgegaejanaaaGreatDoor
open Go.RowKit

set_option maxHeartbeats 1600000 in
set_option maxRecDepth 100000 in
/-- Point, at a byte of ASCII. -/
theorem point_ascii (s : ByteArray) (i : Nat) (hi : i < s.size) (h : (s[i].toNat : Int) < 128) (w : World) :
    Calls Tryz.prog 52 #[.string s, .int .i64 (i : Int)] w fun x w' => x = .returned (.tuple #[.int .i64 (s[i].toNat : Int), .int .i64 1]) ∧ w = w' := by
  go_enter Tryz.func52, Tryz.ntmps52
  go_wp2_with fail
  go_ret2
  exact ⟨rfl, rfl⟩

set_option maxHeartbeats 1600000 in
set_option maxRecDepth 100000 in
/-- source, at a printable sign of ASCII. -/
theorem source_ascii (c : Int) (h0 : 32 ≤ c) (h1 : c < 128) (w : World) :
    Calls Tryz.prog 53 #[.int .i64 c] w fun x w' => x = .returned (.tuple #[.bool true, .bool true]) ∧ w = w' := by
  have b9 : (c == 9) = false := by simp; omega
  have b10 : (c == 10) = false := by simp; omega
  have b13 : (c == 13) = false := by simp; omega
  have b16 : decide (c ≤ 65535) = true := by simp; omega
  go_enter Tryz.func53, Tryz.ntmps53
  go_wp2_with fail
  go_ret2
  exact ⟨rfl, rfl⟩

theorem Lx.noted {w : World} {g : Nat} {s : ByteArray} {i : Int} {out : Value} {bad unsure : Bool} (h : Lx w g s i out bad unsure) (u : Bool) (j : Int) :
    Lx ((w.setCell ⟨g, 4, none⟩ (.bool u)).setCell ⟨g, 1, none⟩ (.int .i64 j)) g s j out bad u := by
  have := Blk.set_ (Blk.set_ h 4 (.bool u)) 1 (.int .i64 j)
  simpa [Lx] using this

set_option maxHeartbeats 3200000 in
set_option maxRecDepth 100000 in
theorem comment_one {w : World} {g : Nat} {s : ByteArray} (hx : Lx w g s 0 (.slice none 0 0) false false) (h1 : s.size = 1) (hc : ch s.data.toList 0 = 35) :
    Calls Tryz.prog 34 #[.pointer (some ⟨g, 0, none⟩)] w fun x w' => x = .returned (.tuple #[]) ∧ Lx w' g s ((1 : Nat) : Int) (.slice none 0 0) false false ∧ w.grownBy w' (some g) := by
  obtain ⟨c0, c1, c2, c3, c4⟩ := hx.cells
  have f1 := Blk.frozen hx 1
  have f4 := Blk.frozen hx 4
  have hb := ch_byte s 0 (by omega)
  have h0 : 0 < s.size := by omega
  rw [hc] at hb
  have HP := Lib.hid (fun w => point_ascii s 0 (by omega) (by omega) w)
  rw [← hb] at HP
  have HS := Lib.hid (fun w => source_ascii 35 (by omega) (by omega) w)
  have b10 : ((s[0].toNat : Int) != 10) = true := by rw [bne_iff_ne]; omega
  have b13 : ((s[0].toNat : Int) != 13) = true := by rw [bne_iff_ne]; omega
  have HX := Lib.hid hx
  clear hx hb hc
  go_enter Tryz.func34, Tryz.ntmps34
  go_wp2_with fail
  refine wp_loop_rounds 2 ?_
  rw [rounds_succ]
  go_wp2_with fail
  go_quiet (fail)
  go_wp2_with fail
  go_quiet ((go_at_call 52; first | exact quiet_add_left (HP.out _) | exact quiet_left (HP.out _)))
  go_wp2_with (go_at_call 53; refine (HS.out _).mono ?_; rintro x w' ⟨rfl, rfl⟩)
  rw [rounds_succ]
  go_wp2_with fail
  go_quiet (fail)
  go_wp2_with fail
  go_returns
  refine ⟨rfl, (Lx.noted (HX.out.drewN _) false 1).drewN _, ?_⟩
  · exact only_drewN (only_setCell (p := ⟨g, 1, none⟩) (only_setCell (p := ⟨g, 4, none⟩) (only_drewN (World.grownBy.refl w _) _) (.inl rfl) _) (.inl rfl) _) _

set_option maxHeartbeats 3200000 in
set_option maxRecDepth 100000 in
theorem token_hash {w : World} {g : Nat} {s : ByteArray} (hx : Lx w g s 0 (.slice none 0 0) false false) (h1 : s.size = 1) (hc : ch s.data.toList 0 = 35) :
    Calls Tryz.prog 24 #[.pointer (some ⟨g, 0, none⟩)] w fun x w' => x = .returned (.tuple #[]) ∧ Lx w' g s ((1 : Nat) : Int) (.slice none 0 0) false false ∧ w.grownBy w' (some g) := by
  obtain ⟨c0, c1, c2, c3, c4⟩ := hx.cells
  have hb := ch_byte s 0 (by omega)
  have h0 : 0 < s.size := by omega
  rw [hc] at hb
  have HF := Lib.hid (fun w => starts_no s ⟨#[239, 187, 191]⟩ 0 w (by omega) (by omega) (by rfl) (by rw [show ch (⟨#[239, 187, 191]⟩ : ByteArray).data.toList 0 = 239 by decide, hc]; omega))
  have HM := Lib.hid (fun W (hW : Lx W g s 0 (.slice none 0 0) false false) => comment_one hW h1 hc)
  have b32 : ((s[0].toNat : Int) == 32) = false := by simp; omega
  have b9 : ((s[0].toNat : Int) == 9) = false := by simp; omega
  have b10 : ((s[0].toNat : Int) == 10) = false := by simp; omega
  have b13 : ((s[0].toNat : Int) == 13) = false := by simp; omega
  have b44 : ((s[0].toNat : Int) == 44) = false := by simp; omega
  have b35 : ((s[0].toNat : Int) == 35) = true := by simp; omega
  have HX := Lib.hid hx
  clear hx hb hc
  go_enter Tryz.func24, Tryz.ntmps24
  go_wp2_with fail
  go_quiet (fail)
  go_wp2_with fail
  go_quiet ((go_at_call 33; first | exact quiet_add_left (HF.out _) | exact quiet_left (HF.out _)))
  go_wp2_with fail
  refine (HM.out _ (HX.out.drewN _)).mono ?_
  rintro x w' ⟨rfl, hl, hg⟩
  go_wp2_with fail
  go_returns
  exact ⟨rfl, hl, ⟨hg.os, hg.tape, hg.output, hg.size, hg.block⟩⟩

end Go.Proofs.YthmdgegaejanaaaGreatDoor
