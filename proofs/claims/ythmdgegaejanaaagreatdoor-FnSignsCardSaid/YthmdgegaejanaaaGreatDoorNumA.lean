/- DIGITS (readDigits), over texts of ASCII. -/
import Derived.Test.YthmdgegaejanaaaGreatDoorLexD
namespace Go.Proofs.YthmdgegaejanaaaGreatDoor
open Go.RowKit

theorem not_digit {c : Int} (h : ¬ Digit c) : c < 48 ∨ 57 < c := by unfold Digit at h; omega

set_option maxHeartbeats 1600000 in
set_option maxRecDepth 100000 in
theorem digits_ok {w : World} {p b n cap : Nat} {l : List UInt8} (hS : Src w p b n cap l) (hn : n ≤ 4611686018427387904) (i e : Nat) (hie : i < e) (hen : e ≤ n)
    (hin : ∀ j, i ≤ j → j < e → Digit (ch l j)) (hout : ¬ Digit (ch l e)) (c : Int) (hc : ch l i = c) :
    Calls Tryz.prog 46 #[.pointer (some ⟨p, 0, none⟩), .int .i64 (i : Int), .int .i32 c, .int .i64 1] w fun x w' => x = .returned (.tuple #[.int .i64 (e : Int), .nilIface]) ∧ w = w' := by
  have hcell := hS.cell
  have HI := Lib.hid hin
  have HO := Lib.hid hout
  have HC := Lib.hid hc
  have hd := hin i (Nat.le_refl _) hie
  rw [hc] at hd
  obtain ⟨d0, d1⟩ := hd
  have ecw : cw l i = 1 := cw_in (by rw [hS.body.len]; omega)
  have HW := Lib.hid ecw
  clear hin hout hc ecw
  go_enter Tryz.func46, Tryz.ntmps46
  go_wp2_with fail
  go_loop [3, 11, 12] (fun v u x => ∃ j : Nat, i ≤ j ∧ j ≤ e ∧ u = .int .i64 j ∧ ∃ (c m : Int), Hid (ch l j = c) ∧ Hid (cw l j = m) ∧ x = .int .i32 c ∧ v = .int .i64 m) (fun _ u _ => n - (intOf u).toNat)
  case atStart => exact ⟨i, by omega, by omega, rfl, c, 1, HC, HW, rfl, rfl⟩
  case round =>
    obtain ⟨j, hj1, hj2, rfl, k, m, HK, HM, rfl, rfl⟩ := hrel
    clear HC HW
    by_cases hje : j < e
    · have hd := HI.out j hj1 hje
      rw [HK.out] at hd
      obtain ⟨k0, k1⟩ := hd
      obtain rfl : m = 1 := by rw [← HM.out]; exact cw_in (by rw [hS.body.len]; omega)
      have HR := Lib.hid (runeAt_any hS.body cap ((j : Int) + 1) (by omega))
      rw [show ((j : Int) + 1).toNat = j + 1 by omega] at HR
      go_wp2_with (go_at_call 27; refine HR.out.mono ?_; rintro x w' ⟨rfl, rfl⟩)
      go_round
      case rel => exact ⟨j + 1, by omega, by omega, by go_num, _, _, rfl, rfl, rfl, rfl⟩
      case measure => simp [intOf]; omega
    · obtain rfl : j = e := by omega
      have hd := not_digit HO.out
      rw [HK.out] at hd
      rcases hd with hd | hd
      all_goals
        go_wp2_with fail
        go_ret2
        exact ⟨rfl, rfl⟩

set_option maxHeartbeats 1600000 in
set_option maxRecDepth 100000 in
theorem digits_err {w : World} {p b n cap : Nat} {l : List UInt8} (hS : Src w p b n cap l) (he : NoEnds l) (hn : n ≤ 4611686018427387904) (i : Nat) (hi : i ≤ n) (c m : Int) (hc : ¬ Digit c) :
    Calls Tryz.prog 46 #[.pointer (some ⟨p, 0, none⟩), .int .i64 (i : Int), .int .i32 c, .int .i64 m] w fun x w' => (∃ a, x = .returned (.tuple #[.int .i64 (i : Int), .iface 62 (.pointer (some a))])) ∧ Below w.heap.size w w' := by
  have hcell := hS.cell
  have HN := Lib.hid (fun d => syntaxError_any hS he hn (i : Int) (by omega) (by omega) d)
  have hd := not_digit hc
  clear hc
  rcases hd with hd | hd
  all_goals
    go_enter Tryz.func46, Tryz.ntmps46
    go_wp2_with fail
    refine (HN.out _).mono ?_
    rintro x W2 ⟨⟨a, rfl⟩, hb⟩
    go_wp2_with fail
    go_ret2
    exact ⟨⟨_, rfl⟩, hb⟩

end Go.Proofs.YthmdgegaejanaaaGreatDoor
