/- THE LAWS' OWN TESTS ON TEXTS: isName9, plain9, digits9; the sizes of a list of texts. -/
import Derived.Test.YtannihddhebcpaaGreatDoorProg
import Derived.Test.YtannihddhebcpaaGreatDoorPlain
import Derived.WalkKit
import Derived.WalkSpells
import Derived.WalkLawsBesides
import Derived.Handy
import Derived.Lib.Hide
import Derived.Lib.Strings
namespace Go.Proofs.YtannihddhebcpaaGreatDoor
open Go.RowKit

/-- The code at a place of a string. -/
theorem ch_byte (s : ByteArray) (k : Nat) (h : k < s.size) : ch s.data.toList k = (s[k].toNat : Int) := by
  have h' : k < s.data.size := h
  rw [ch_get (by simpa using h'), Array.getElem_toList]
  rfl
theorem len_data (s : ByteArray) : s.data.toList.length = s.size := by simp

theorem not_empty (s : ByteArray) (h : 0 < s.size) : s.toList.isEmpty = false ∧ ¬ s.toList = [] := by
  have h1 : ¬ s.toList = [] := by
    rw [Lib.toList_data]
    intro e
    have : s.size = 0 := by rw [← len_data, e]; rfl
    omega
  exact ⟨by simpa using h1, h1⟩
theorem is_empty (s : ByteArray) (h : s.size = 0) : s.toList.isEmpty = true ∧ s.toList = [] := by
  have h1 : s.toList = [] := by
    rw [Lib.toList_data]
    exact List.eq_nil_of_length_eq_zero (by rw [len_data]; exact h)
  exact ⟨by rw [h1]; rfl, h1⟩

def LetterAt (i : Nat) (c : Int) : Prop := (c = 95 ∨ (65 ≤ c ∧ c ≤ 90) ∨ (97 ≤ c ∧ c ≤ 122)) ∨ (i ≠ 0 ∧ 48 ≤ c ∧ c ≤ 57)
def IsName (l : List UInt8) : Prop := l ≠ [] ∧ l.length ≤ 40 ∧ ∀ i, i < l.length → LetterAt i (ch l i)

set_option maxHeartbeats 1600000 in
set_option maxRecDepth 100000 in
theorem name_yes (s : ByteArray) (w : World) (h : IsName s.data.toList) :
    Calls Tryz.prog 8 #[.string s] w fun x w' => x = .returned (.bool true) ∧ w = w' := by
  obtain ⟨h1, h2, h3⟩ := h
  rw [len_data] at h2 h3
  have H3 := Lib.hid h3
  have hz : 0 < s.size := by
    rcases Nat.eq_zero_or_pos s.size with h | h
    · exact absurd (List.eq_nil_of_length_eq_zero (by rw [len_data]; exact h)) h1
    · exact h
  obtain ⟨z1, z2⟩ := not_empty s hz
  clear h1 h3
  go_enter Tryz.func8, Tryz.ntmps8
  go_wp2_with fail
  go_loop [3] (fun u => ∃ j : Nat, j ≤ s.size ∧ u = .int .i64 j) (fun u => s.size - (intOf u).toNat)
  case atStart => exact ⟨0, by omega, rfl⟩
  case round =>
    obtain ⟨j, hj, rfl⟩ := hrel
    by_cases hlt : j < s.size
    · have hl := H3.out j hlt
      rw [ch_byte s j hlt] at hl
      unfold LetterAt at hl
      have hb := s[j].toNat_lt
      have e95 : ((s[j].toNat : Int) = 95) ∨ ((s[j].toNat : Int) != 95) = true := by
        by_cases h : (s[j].toNat : Int) = 95
        · exact .inl h
        · exact .inr (by rw [bne_iff_ne]; exact h)
      rcases hl with (hl | hl | hl) | ⟨hz', hl⟩
      · clear e95
        go_wp2
        go_round
        case rel => exact ⟨j + 1, by omega, by go_num⟩
        case measure => simp [intOf]; omega
      all_goals
        rcases e95 with e95 | e95
        · omega
        · try (have ej : ((j : Int) == 0) = false := by simpa using hz')
          go_wp2
          go_round
          case rel => exact ⟨j + 1, by omega, by go_num⟩
          case measure => simp [intOf]; omega
    · obtain rfl : j = s.size := by omega
      have z3 : decide ((s.size : Int) ≤ 40) = true := by simp; omega
      go_wp2
      go_ret
      exact ⟨rfl, rfl⟩

set_option maxHeartbeats 1600000 in
set_option maxRecDepth 100000 in
theorem name_no (s : ByteArray) (w : World) (hn : s.size ≤ 4611686018427387904) (h : ¬ IsName s.data.toList) :
    Calls Tryz.prog 8 #[.string s] w fun x w' => x = .returned (.bool false) ∧ w = w' := by
  have H := Lib.hid h
  clear h
  go_enter Tryz.func8, Tryz.ntmps8
  go_wp2_with fail
  go_loop [3] (fun u => ∃ j : Nat, j ≤ s.size ∧ Hid (∀ i, i < j → LetterAt i (ch s.data.toList i)) ∧ u = .int .i64 j) (fun u => s.size - (intOf u).toNat)
  case atStart => exact ⟨0, by omega, fun i hi => absurd hi (by omega), rfl⟩
  case round =>
    obtain ⟨j, hj, HJ, rfl⟩ := hrel
    by_cases hlt : j < s.size
    · have hb := s[j].toNat_lt
      by_cases hl : LetterAt j (ch s.data.toList j)
      · have HJ2 : Hid (∀ i, i < j + 1 → LetterAt i (ch s.data.toList i)) := fun i hi => by
          by_cases e : i = j
          · rw [e]; exact hl
          · exact HJ.out i (by omega)
        rw [ch_byte s j hlt] at hl
        unfold LetterAt at hl
        have e95 : ((s[j].toNat : Int) = 95) ∨ ((s[j].toNat : Int) != 95) = true := by
          by_cases h : (s[j].toNat : Int) = 95
          · exact .inl h
          · exact .inr (by rw [bne_iff_ne]; exact h)
        rcases hl with (hl | hl | hl) | ⟨hz', hl⟩
        · clear e95
          go_wp2
          go_round
          case rel => exact ⟨j + 1, by omega, HJ2, by go_num⟩
          case measure => simp [intOf]; omega
        all_goals
          rcases e95 with e95 | e95
          · omega
          · try (have ej : ((j : Int) == 0) = false := by simpa using hz')
            go_wp2
            go_round
            case rel => exact ⟨j + 1, by omega, HJ2, by go_num⟩
            case measure => simp [intOf]; omega
      · rw [ch_byte s j hlt] at hl
        unfold LetterAt at hl
        have e95 : ((s[j].toNat : Int) != 95) = true := by rw [bne_iff_ne]; omega
        have hx : ((s[j].toNat : Int) < 48 ∨ (57 < (s[j].toNat : Int) ∧ (s[j].toNat : Int) < 65) ∨ (90 < (s[j].toNat : Int) ∧ (s[j].toNat : Int) < 97) ∨ 122 < (s[j].toNat : Int)) ∨ (j = 0 ∧ 48 ≤ (s[j].toNat : Int) ∧ (s[j].toNat : Int) ≤ 57) := by omega
        clear hl
        have ej : ((j : Int) == 0) = true ∨ ((j : Int) == 0) = false := by cases h : ((j : Int) == 0) <;> simp
        rcases hx with (hx | hx | hx | hx) | ⟨hz', hx⟩
        · rcases ej with ej | ej
          all_goals
            go_wp2
            go_ret
            exact ⟨rfl, rfl⟩
        · rcases ej with ej | ej
          all_goals
            go_wp2
            go_ret
            exact ⟨rfl, rfl⟩
        · rcases ej with ej | ej
          all_goals
            go_wp2
            go_ret
            exact ⟨rfl, rfl⟩
        · rcases ej with ej | ej
          all_goals
            go_wp2
            go_ret
            exact ⟨rfl, rfl⟩
        · clear ej
          have ej : ((j : Int) == 0) = true := by simp; omega
          clear hz'
          go_wp2
          go_ret
          exact ⟨rfl, rfl⟩
    · obtain rfl : j = s.size := by omega
      have hbad : s.size = 0 ∨ (0 < s.size ∧ 40 < s.size) := by
        rcases Nat.eq_zero_or_pos s.size with he | he
        · exact .inl he
        · right
          refine ⟨he, ?_⟩
          by_cases h40 : s.size ≤ 40
          · exact absurd (show IsName s.data.toList from ⟨fun e => by rw [← len_data, e] at he; simp at he, by rw [len_data]; exact h40, fun i hi => HJ.out i (by rw [len_data] at hi; exact hi)⟩) H.out
          · omega
      rcases hbad with hb | ⟨hb, h40⟩
      · obtain ⟨z1, z2⟩ := is_empty s hb
        clear hb
        go_wp2
        go_ret
        exact ⟨rfl, rfl⟩
      · obtain ⟨z1, z2⟩ := not_empty s hb
        have z3 : decide ((s.size : Int) ≤ 40) = false := by simp; omega
        go_wp2
        go_ret
        exact ⟨rfl, rfl⟩

end Go.Proofs.YtannihddhebcpaaGreatDoor
