/- STRINGS: the walk of FnStringPlain: true at every input. -/
import Derived.Test.YthmdgegaejanaaaGreatDoorLawStrings
import Derived.Test.YthmdgegaejanaaaGreatDoorComments
namespace Go.Proofs.YthmdgegaejanaaaGreatDoor
open Go.RowKit

set_option maxHeartbeats 1600000 in
set_option maxRecDepth 100000 in
theorem strings_big (a b : ByteArray) (w : World) (h : 2147483647 < a.size ∨ (a.size ≤ 2147483647 ∧ 2147483647 < b.size)) :
    Calls Tryz.prog 8 #[.string a, .string b] w fun x w' => x = .returned (.bool true) ∧ w = w' := by
  rcases h with h | ⟨h1, h⟩
  all_goals
    go_enter Tryz.func8, Tryz.ntmps8
    go_wp2
    go_ret
    exact ⟨rfl, rfl⟩

set_option maxHeartbeats 1600000 in
set_option maxRecDepth 100000 in
theorem strings_other (a b : ByteArray) (w : World) (h1 : a.size ≤ 2147483647) (h2 : b.size ≤ 2147483647)
    (h : ¬ Plain a.data.toList ∨ (Plain a.data.toList ∧ ¬ Plain b.data.toList) ∨ (Plain a.data.toList ∧ Plain b.data.toList ∧ a.toList = [])) :
    Calls Tryz.prog 8 #[.string a, .string b] w fun x w' => x = .returned (.bool true) ∧ w = w' := by
  rcases h with h | ⟨h4, h⟩ | ⟨h4, h5, h⟩
  · have HA := Lib.hid (fun w => plain_no a w (by omega) h)
    clear h
    go_enter Tryz.func8, Tryz.ntmps8
    go_wp2_with (go_at_call 10; refine (HA.out _).mono ?_; rintro x w' ⟨rfl, rfl⟩)
    go_ret
    exact ⟨rfl, rfl⟩
  · have HA := Lib.hid (fun w => plain_yes a w h4)
    have HB := Lib.hid (fun w => plain_no b w (by omega) h)
    clear h h4
    go_enter Tryz.func8, Tryz.ntmps8
    go_wp2_with fail
    refine (HA.out _).mono ?_
    rintro x w' ⟨rfl, rfl⟩
    go_wp2_with fail
    refine (HB.out _).mono ?_
    rintro x w' ⟨rfl, rfl⟩
    go_wp2_with fail
    go_ret
    exact ⟨rfl, rfl⟩
  · have HA := Lib.hid (fun w => plain_yes a w h4)
    have HB := Lib.hid (fun w => plain_yes b w h5)
    clear h4 h5
    go_enter Tryz.func8, Tryz.ntmps8
    go_wp2_with fail
    refine (HA.out _).mono ?_
    rintro x w' ⟨rfl, rfl⟩
    go_wp2_with fail
    refine (HB.out _).mono ?_
    rintro x w' ⟨rfl, rfl⟩
    go_wp2_with fail
    go_ret
    exact ⟨rfl, rfl⟩

/-- The tokens of the text, as they lie in memory. -/
theorem strings_tokens (a b : ByteArray) (h1 : Plain a.data.toList) (h2 : Plain b.data.toList) (h0 : 0 < a.size) (W : World) :
    Calls Tryz.prog 11 #[.string ((⟨#[34]⟩ : ByteArray) ++ a ++ (⟨#[34, 34]⟩ : ByteArray) ++ b ++ (⟨#[120, 34]⟩ : ByteArray))] W fun x w' =>
      ∃ g cap, x = .returned (.tuple #[.slice (some ⟨g, 0, none⟩) 2 cap, .bool true]) ∧ w'.cell? ⟨g, 0, none⟩ = some (.int .i64 18) ∧ w'.cell? ⟨g, 1, none⟩ = some (.string a) ∧ w'.cell? ⟨g, 4, none⟩ = some (.int .i64 18) ∧ w'.cell? ⟨g, 5, none⟩ = some (.string (b ++ ⟨#[120]⟩)) ∧ Below W.heap.size W w' := by
  obtain ⟨ha, hL⟩ := strings_lexed a.data.toList b.data.toList h1 h2 (by rw [len_data]; exact h0)
  have s1 : a.size ≤ 200 := by have := h1.1; rwa [len_data] at this
  have s2 : b.size ≤ 200 := by have := h2.1; rwa [len_data] at this
  have hT : ((⟨#[34]⟩ : ByteArray) ++ a ++ (⟨#[34, 34]⟩ : ByteArray) ++ b ++ (⟨#[120, 34]⟩ : ByteArray)).data.toList = [34] ++ (a.data.toList ++ ([34, 34] ++ (b.data.toList ++ [120, 34]))) := by
    simp only [Joins.data_append, List.append_assoc]
  have hz : ((⟨#[34]⟩ : ByteArray) ++ a ++ (⟨#[34, 34]⟩ : ByteArray) ++ b ++ (⟨#[120, 34]⟩ : ByteArray)).size = a.size + b.size + 5 := by
    rw [← len_data, hT]
    simp only [List.length_append, len_data]
    simp only [List.length_cons, List.length_nil]
    omega
  rw [← hT] at ha hL
  refine (tokens_ok _ _ ha (by rw [hz]; omega) hL (by rw [hz]; simp) W).mono ?_
  rintro x w' ⟨A, cap, rfl, hown, hb⟩
  obtain ⟨g, cap', hv⟩ := Joins.ownsRow_form hown (by simp)
  rw [hv] at hown
  injection hv with hA hl hcap
  subst hA
  have hbx : (⟨(b.data.toList ++ [120]).toArray⟩ : ByteArray) = b ++ ⟨#[120]⟩ := by
    apply ByteArray.ext
    apply Array.toList_inj.1
    rw [Joins.data_append]
  refine ⟨g, cap, rfl, ?_, ?_, ?_, ?_, hb⟩
  · rw [hown.cellAt 0 (by simp)]
    simp [flat, Tk.cells]
  · rw [hown.cellAt 1 (by simp)]
    simp [flat, Tk.cells]
  · rw [hown.cellAt 4 (by simp)]
    simp [flat, Tk.cells]
  · rw [hown.cellAt 5 (by simp), ← hbx]
    simp [flat, Tk.cells]

set_option maxHeartbeats 3200000 in
set_option maxRecDepth 100000 in
theorem strings_main (a b : ByteArray) (w : World) (h1 : Plain a.data.toList) (h2 : Plain b.data.toList) (h0 : a.toList ≠ []) :
    Calls Tryz.prog 8 #[.string a, .string b] w fun x w' => x = .returned (.bool true) ∧ Below w.heap.size w w' := by
  have s1 : a.size ≤ 200 := by have := h1.1; rwa [len_data] at this
  have s2 : b.size ≤ 200 := by have := h2.1; rwa [len_data] at this
  have hp : 0 < a.size := by
    rw [← len_data, ← Lib.toList_data]
    exact List.length_pos_iff.2 h0
  have HA := Lib.hid (fun w => plain_yes a w h1)
  have HB := Lib.hid (fun w => plain_yes b w h2)
  have HT := Lib.hid (fun W => strings_tokens a b h1 h2 hp W)
  have he : a.toList.isEmpty = false := by simpa using h0
  clear h1 h2
  go_enter Tryz.func8, Tryz.ntmps8
  go_wp2_with fail
  refine (HA.out _).mono ?_
  rintro x w' ⟨rfl, rfl⟩
  go_wp2_with fail
  refine (HB.out _).mono ?_
  rintro x w' ⟨rfl, rfl⟩
  clear HA HB
  go_wp2_with fail
  refine (HT.out _).mono ?_
  rintro x w' ⟨g, cap, rfl, k0, k1, k4, k5, hb⟩
  have HB := Lib.hid hb
  clear hb
  go_wp2_with fail
  go_ret
  exact ⟨rfl, HB.out⟩

/-- FnStringPlain: true, whatever the input. -/
theorem strings_any (a b : ByteArray) (w : World) :
    Calls Tryz.prog 8 #[.string a, .string b] w fun x w' => x = .returned (.bool true) ∧ Below w.heap.size w w' := by
  have low : ∀ (x : Ending) (w' : World), x = .returned (.bool true) ∧ w = w' → x = .returned (.bool true) ∧ Below w.heap.size w w' := fun x w' ⟨h, h'⟩ => ⟨h, by rw [← h']; exact Below.refl _ _⟩
  by_cases ha : a.size ≤ 2147483647
  · by_cases hb : b.size ≤ 2147483647
    · by_cases h1 : Plain a.data.toList
      · by_cases h2 : Plain b.data.toList
        · by_cases h3 : a.toList = []
          · exact (strings_other a b w ha hb (.inr (.inr ⟨h1, h2, h3⟩))).mono low
          · exact strings_main a b w h1 h2 h3
        · exact (strings_other a b w ha hb (.inr (.inl ⟨h1, h2⟩))).mono low
      · exact (strings_other a b w ha hb (.inl h1)).mono low
    · exact (strings_big a b w (.inr ⟨ha, by omega⟩)).mono low
  · exact (strings_big a b w (.inl (by omega))).mono low

end Go.Proofs.YthmdgegaejanaaaGreatDoor
