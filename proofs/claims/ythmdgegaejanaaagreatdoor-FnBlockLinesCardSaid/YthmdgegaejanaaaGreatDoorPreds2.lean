/- THE LAWS' OWN TESTS ON TEXTS: plain9, digits9, and the sizes of a list of texts. -/
import Derived.Test.YthmdgegaejanaaaGreatDoorPreds
namespace Go.Proofs.YthmdgegaejanaaaGreatDoor
open Go.RowKit

def PlainCh (c : Int) : Prop := 32 ≤ c ∧ c ≤ 126 ∧ c ≠ 34 ∧ c ≠ 92
def Plain (l : List UInt8) : Prop := l.length ≤ 200 ∧ ∀ i, i < l.length → PlainCh (ch l i)
def Digits (l : List UInt8) : Prop := l ≠ [] ∧ l.length ≤ 20 ∧ ∀ i, i < l.length → Digit (ch l i)

set_option maxHeartbeats 1600000 in
set_option maxRecDepth 100000 in
theorem plain_yes (s : ByteArray) (w : World) (h : Plain s.data.toList) :
    Calls Tryz.prog 10 #[.string s] w fun x w' => x = .returned (.bool true) ∧ w = w' := by
  obtain ⟨h2, h3⟩ := h
  rw [len_data] at h2 h3
  have H3 := Lib.hid h3
  have z3 : decide ((s.size : Int) ≤ 200) = true := by simp; omega
  clear h3
  go_enter Tryz.func10, Tryz.ntmps10
  go_wp2_with fail
  go_loop [3] (fun u => ∃ j : Nat, j ≤ s.size ∧ u = .int .i64 j) (fun u => s.size - (intOf u).toNat)
  case atStart => exact ⟨0, by omega, rfl⟩
  case round =>
    obtain ⟨j, hj, rfl⟩ := hrel
    by_cases hlt : j < s.size
    · have hl := H3.out j hlt
      rw [ch_byte s j hlt] at hl
      obtain ⟨l1, l2, l3, l4⟩ := hl
      have e1 : ((s[j].toNat : Int) == 34) = false := by simp; omega
      have e2 : ((s[j].toNat : Int) == 92) = false := by simp; omega
      clear l3 l4
      go_wp2
      go_round
      case rel => exact ⟨j + 1, by omega, by go_num⟩
      case measure => simp [intOf]; omega
    · obtain rfl : j = s.size := by omega
      go_wp2
      go_ret
      exact ⟨rfl, rfl⟩

set_option maxHeartbeats 1600000 in
set_option maxRecDepth 100000 in
theorem plain_no (s : ByteArray) (w : World) (hn : s.size ≤ 4611686018427387904) (h : ¬ Plain s.data.toList) :
    Calls Tryz.prog 10 #[.string s] w fun x w' => x = .returned (.bool false) ∧ w = w' := by
  have H := Lib.hid h
  clear h
  go_enter Tryz.func10, Tryz.ntmps10
  go_wp2_with fail
  go_loop [3] (fun u => ∃ j : Nat, j ≤ s.size ∧ Hid (∀ i, i < j → PlainCh (ch s.data.toList i)) ∧ u = .int .i64 j) (fun u => s.size - (intOf u).toNat)
  case atStart => exact ⟨0, by omega, fun i hi => absurd hi (by omega), rfl⟩
  case round =>
    obtain ⟨j, hj, HJ, rfl⟩ := hrel
    by_cases hlt : j < s.size
    · by_cases hl : PlainCh (ch s.data.toList j)
      · have HJ2 : Hid (∀ i, i < j + 1 → PlainCh (ch s.data.toList i)) := fun i hi => by
          by_cases e : i = j
          · rw [e]; exact hl
          · exact HJ.out i (by omega)
        rw [ch_byte s j hlt] at hl
        obtain ⟨l1, l2, l3, l4⟩ := hl
        have e1 : ((s[j].toNat : Int) == 34) = false := by simp; omega
        have e2 : ((s[j].toNat : Int) == 92) = false := by simp; omega
        clear l3 l4
        go_wp2
        go_round
        case rel => exact ⟨j + 1, by omega, HJ2, by go_num⟩
        case measure => simp [intOf]; omega
      · rw [ch_byte s j hlt] at hl
        unfold PlainCh at hl
        have hx : (s[j].toNat : Int) < 32 ∨ 126 < (s[j].toNat : Int) ∨ ((s[j].toNat : Int) = 34) ∨ ((s[j].toNat : Int) = 92) := by omega
        clear hl
        rcases hx with hx | hx | hx | hx
        all_goals
          go_wp2
          go_ret
          exact ⟨rfl, rfl⟩
    · obtain rfl : j = s.size := by omega
      have h200 : 200 < s.size := by
        by_cases h40 : s.size ≤ 200
        · exact absurd (show Plain s.data.toList from ⟨by rw [len_data]; exact h40, fun i hi => HJ.out i (by rw [len_data] at hi; exact hi)⟩) H.out
        · omega
      have z3 : decide ((s.size : Int) ≤ 200) = false := by simp; omega
      go_wp2
      go_ret
      exact ⟨rfl, rfl⟩

set_option maxHeartbeats 1600000 in
set_option maxRecDepth 100000 in
theorem digits_yes (s : ByteArray) (w : World) (h : Digits s.data.toList) :
    Calls Tryz.prog 16 #[.string s] w fun x w' => x = .returned (.bool true) ∧ w = w' := by
  obtain ⟨h1, h2, h3⟩ := h
  rw [len_data] at h2 h3
  have H3 := Lib.hid h3
  have hz : 0 < s.size := by
    rcases Nat.eq_zero_or_pos s.size with h | h
    · exact absurd (List.eq_nil_of_length_eq_zero (by rw [len_data]; exact h)) h1
    · exact h
  obtain ⟨z1, z2⟩ := not_empty s hz
  have z3 : decide ((s.size : Int) ≤ 20) = true := by simp; omega
  clear h1 h3
  go_enter Tryz.func16, Tryz.ntmps16
  go_wp2_with fail
  go_loop [3] (fun u => ∃ j : Nat, j ≤ s.size ∧ u = .int .i64 j) (fun u => s.size - (intOf u).toNat)
  case atStart => exact ⟨0, by omega, rfl⟩
  case round =>
    obtain ⟨j, hj, rfl⟩ := hrel
    by_cases hlt : j < s.size
    · have hl := H3.out j hlt
      rw [ch_byte s j hlt] at hl
      obtain ⟨l1, l2⟩ := hl
      go_wp2
      go_round
      case rel => exact ⟨j + 1, by omega, by go_num⟩
      case measure => simp [intOf]; omega
    · obtain rfl : j = s.size := by omega
      go_wp2
      go_ret
      exact ⟨rfl, rfl⟩

set_option maxHeartbeats 1600000 in
set_option maxRecDepth 100000 in
theorem digits_no (s : ByteArray) (w : World) (hn : s.size ≤ 4611686018427387904) (h : ¬ Digits s.data.toList) :
    Calls Tryz.prog 16 #[.string s] w fun x w' => x = .returned (.bool false) ∧ w = w' := by
  have H := Lib.hid h
  clear h
  go_enter Tryz.func16, Tryz.ntmps16
  go_wp2_with fail
  go_loop [3] (fun u => ∃ j : Nat, j ≤ s.size ∧ Hid (∀ i, i < j → Digit (ch s.data.toList i)) ∧ u = .int .i64 j) (fun u => s.size - (intOf u).toNat)
  case atStart => exact ⟨0, by omega, fun i hi => absurd hi (by omega), rfl⟩
  case round =>
    obtain ⟨j, hj, HJ, rfl⟩ := hrel
    by_cases hlt : j < s.size
    · by_cases hl : Digit (ch s.data.toList j)
      · have HJ2 : Hid (∀ i, i < j + 1 → Digit (ch s.data.toList i)) := fun i hi => by
          by_cases e : i = j
          · rw [e]; exact hl
          · exact HJ.out i (by omega)
        rw [ch_byte s j hlt] at hl
        obtain ⟨l1, l2⟩ := hl
        go_wp2
        go_round
        case rel => exact ⟨j + 1, by omega, HJ2, by go_num⟩
        case measure => simp [intOf]; omega
      · rw [ch_byte s j hlt] at hl
        unfold Digit at hl
        have hx : (s[j].toNat : Int) < 48 ∨ 57 < (s[j].toNat : Int) := by omega
        clear hl
        rcases hx with hx | hx
        all_goals
          go_wp2
          go_ret
          exact ⟨rfl, rfl⟩
    · obtain rfl : j = s.size := by omega
      have hbad : s.size = 0 ∨ (0 < s.size ∧ 20 < s.size) := by
        rcases Nat.eq_zero_or_pos s.size with he | he
        · exact .inl he
        · right
          refine ⟨he, ?_⟩
          by_cases h40 : s.size ≤ 20
          · exact absurd (show Digits s.data.toList from ⟨fun e => by rw [← len_data, e] at he; simp at he, by rw [len_data]; exact h40, fun i hi => HJ.out i (by rw [len_data] at hi; exact hi)⟩) H.out
          · omega
      rcases hbad with hb | ⟨hb, h40⟩
      · obtain ⟨z1, z2⟩ := is_empty s hb
        clear hb
        go_wp2
        go_ret
        exact ⟨rfl, rfl⟩
      · obtain ⟨z1, z2⟩ := not_empty s hb
        have z3 : decide ((s.size : Int) ≤ 20) = false := by simp; omega
        go_wp2
        go_ret
        exact ⟨rfl, rfl⟩

end Go.Proofs.YthmdgegaejanaaaGreatDoor
