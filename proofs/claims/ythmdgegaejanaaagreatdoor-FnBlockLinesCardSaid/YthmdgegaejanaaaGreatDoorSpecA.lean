/- THE REFERENCE's LEXER: its small functions. -/
import Derived.Test.YthmdgegaejanaaaGreatDoorPreds2
import Derived.Test.YthmdgegaejanaaaGreatDoorBlk
import Derived.Test.YthmdgegaejanaaaGreatDoorFrames
namespace Go.Proofs.YthmdgegaejanaaaGreatDoor
open Go.RowKit

/-- The byte at a place; 0 behind the end. -/
def nx (l : List UInt8) (i : Nat) : Int := if i < l.length then ch l i else 0
theorem nx_in {l : List UInt8} {i : Nat} (h : i < l.length) : nx l i = ch l i := by unfold nx; rw [if_pos h]
theorem nx_out {l : List UInt8} {i : Nat} (h : l.length ≤ i) : nx l i = 0 := by unfold nx; rw [if_neg (by omega)]
theorem nx_range (l : List UInt8) (i : Nat) : 0 ≤ nx l i ∧ nx l i ≤ 255 := by
  unfold nx
  split
  · rename_i h
    rw [ch_get h]
    have := (l[i]).toNat_lt
    omega
  · omega
theorem nx_digit {l : List UInt8} {i : Nat} : Digit (nx l i) ↔ Digit (ch l i) := by
  by_cases h : i < l.length
  · rw [nx_in h]
  · rw [nx_out (by omega), ch_end (by omega)]; unfold Digit; omega

set_option maxHeartbeats 1600000 in
set_option maxRecDepth 100000 in
theorem next_any {w : World} {g : Nat} {s : ByteArray} (hc : w.cell? ⟨g, 0, none⟩ = some (.string s)) (i : Int) (h0 : 0 ≤ i) :
    Calls Tryz.prog 38 #[.pointer (some ⟨g, 0, none⟩), .int .i64 i] w fun x w' => x = .returned (.int .u8 (nx s.data.toList i.toNat)) ∧ w = w' := by
  obtain ⟨i, rfl⟩ := Int.eq_ofNat_of_zero_le h0
  rw [Int.toNat_natCast]
  by_cases h : i < s.size
  · rw [nx_in (by rw [len_data]; exact h), ch_byte s i h]
    go_enter Tryz.func38, Tryz.ntmps38
    go_wp2
    go_ret
    exact ⟨rfl, rfl⟩
  · rw [nx_out (by rw [len_data]; omega)]
    go_enter Tryz.func38, Tryz.ntmps38
    go_wp2
    go_ret
    exact ⟨rfl, rfl⟩

set_option maxHeartbeats 1600000 in
theorem isDigit_yes (c : Int) (w : World) (h : Digit c) : Calls Tryz.prog 39 #[.int .u8 c] w fun x w' => x = .returned (.bool true) ∧ w = w' := by
  obtain ⟨h0, h1⟩ := h
  go_enter Tryz.func39, Tryz.ntmps39
  go_wp2
  go_ret
  exact ⟨rfl, rfl⟩
set_option maxHeartbeats 1600000 in
theorem isDigit_no (c : Int) (w : World) (h : ¬ Digit c) : Calls Tryz.prog 39 #[.int .u8 c] w fun x w' => x = .returned (.bool false) ∧ w = w' := by
  have hx : c < 48 ∨ 57 < c := by unfold Digit at h; omega
  clear h
  have d1 : c < 48 ∨ (57 < c ∧ decide (c ≤ 57) = false) := by
    rcases hx with hx | hx
    · exact .inl hx
    · exact .inr ⟨hx, by simp; omega⟩
  clear hx
  rcases d1 with hx | ⟨hx, hx2⟩
  all_goals
    go_enter Tryz.func39, Tryz.ntmps39
    go_wp2
    go_ret
    exact ⟨rfl, rfl⟩

def Begin (c : Int) : Prop := c = 95 ∨ (65 ≤ c ∧ c ≤ 90) ∨ (97 ≤ c ∧ c ≤ 122)
set_option maxHeartbeats 1600000 in
theorem isBegin_yes (c : Int) (w : World) (h : Begin c) : Calls Tryz.prog 37 #[.int .u8 c] w fun x w' => x = .returned (.bool true) ∧ w = w' := by
  rcases h with rfl | h | h
  all_goals
    go_enter Tryz.func37, Tryz.ntmps37
    go_wp2
    go_ret
    exact ⟨rfl, rfl⟩
set_option maxHeartbeats 1600000 in
theorem isBegin_no (c : Int) (w : World) (h : ¬ Begin c) : Calls Tryz.prog 37 #[.int .u8 c] w fun x w' => x = .returned (.bool false) ∧ w = w' := by
  have hx : c < 65 ∨ (90 < c ∧ c < 95) ∨ c = 96 ∨ 122 < c := by unfold Begin at h; omega
  have hz : (c == 95) = false := by unfold Begin at h; simp; omega
  have d1 : c < 65 ∨ (90 < c ∧ c < 97 ∧ decide (c ≤ 90) = false) ∨ (122 < c ∧ decide (c ≤ 90) = false ∧ decide (c ≤ 122) = false) := by
    rcases hx with hx | hx | hx | hx
    · exact .inl hx
    · exact .inr (.inl ⟨by omega, by omega, by simp; omega⟩)
    · exact .inr (.inl ⟨by omega, by omega, by simp; omega⟩)
    · exact .inr (.inr ⟨by omega, by simp; omega, by simp; omega⟩)
  clear h hx
  rcases d1 with hx | ⟨hx, hx2, hx3⟩ | ⟨hx, hx2, hx3⟩
  all_goals
    go_enter Tryz.func37, Tryz.ntmps37
    go_wp2
    go_ret
    exact ⟨rfl, rfl⟩

set_option maxHeartbeats 1600000 in
set_option maxRecDepth 100000 in
theorem digits_to {w : World} {g : Nat} {s : ByteArray} (hc : w.cell? ⟨g, 0, none⟩ = some (.string s)) (hn : s.size ≤ 4611686018427387904) (i e : Nat) (hie : i ≤ e) (hen : e ≤ s.size)
    (hin : ∀ j, i ≤ j → j < e → Digit (ch s.data.toList j)) (hout : ¬ Digit (ch s.data.toList e)) :
    Calls Tryz.prog 69 #[.pointer (some ⟨g, 0, none⟩), .int .i64 (i : Int)] w fun x w' => x = .returned (.int .i64 (e : Int)) ∧ w = w' := by
  have HX := Lib.hid (fun (j : Nat) => next_any hc (j : Int) (by omega))
  have HI := Lib.hid hin
  have HO := Lib.hid hout
  clear hin hout
  go_enter Tryz.func69, Tryz.ntmps69
  go_wp2_with fail
  go_loop [1] (fun u => ∃ j : Nat, i ≤ j ∧ j ≤ e ∧ u = .int .i64 j) (fun u => s.size - (intOf u).toNat)
  case atStart => exact ⟨i, by omega, by omega, rfl⟩
  case round =>
    obtain ⟨j, hj1, hj2, rfl⟩ := hrel
    have HJ := Lib.hid (HX.out j)
    rw [Int.toNat_natCast] at HJ
    by_cases hje : j < e
    · have hd : Digit (nx s.data.toList j) := nx_digit.2 (HI.out j hj1 hje)
      generalize nx s.data.toList j = c at hd HJ
      have HD := Lib.hid (fun w => isDigit_yes c w hd)
      clear hd
      go_wp2_with (first | (go_at_call 38; refine HJ.out.mono ?_; rintro x w' ⟨rfl, rfl⟩) | (go_at_call 39; refine (HD.out _).mono ?_; rintro x w' ⟨rfl, rfl⟩))
      go_round
      case rel => exact ⟨j + 1, by omega, by omega, by go_num⟩
      case measure => simp [intOf]; omega
    · obtain rfl : j = e := by omega
      have hd : ¬ Digit (nx s.data.toList j) := fun h => HO.out (nx_digit.1 h)
      generalize nx s.data.toList j = c at hd HJ
      have HD := Lib.hid (fun w => isDigit_no c w hd)
      clear hd
      go_wp2_with (first | (go_at_call 38; refine HJ.out.mono ?_; rintro x w' ⟨rfl, rfl⟩) | (go_at_call 39; refine (HD.out _).mono ?_; rintro x w' ⟨rfl, rfl⟩))
      go_ret
      exact ⟨rfl, rfl⟩

set_option maxHeartbeats 1600000 in
theorem fail_any {w : World} {g : Nat} {b : Value} (hc : w.cell? ⟨g, 3, none⟩ = some b) (hf : w.frozen? ⟨g, 3, none⟩ = false) :
    Calls Tryz.prog 43 #[.pointer (some ⟨g, 0, none⟩)] w fun x w' => x = .returned (.tuple #[]) ∧ w.setCell ⟨g, 3, none⟩ (.bool true) = w' := by
  go_enter Tryz.func43, Tryz.ntmps43
  go_wp2
  go_end0
  exact ⟨rfl, rfl⟩

end Go.Proofs.YthmdgegaejanaaaGreatDoor
