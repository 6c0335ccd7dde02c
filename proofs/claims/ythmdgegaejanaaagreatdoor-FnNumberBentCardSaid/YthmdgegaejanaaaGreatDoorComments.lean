/- COMMENTS: the walk of FnComments: true at every input. -/
import Derived.Test.YthmdgegaejanaaaGreatDoorLawComments
namespace Go.Proofs.YthmdgegaejanaaaGreatDoor
open Go.RowKit

/-- A string of its bytes. -/
theorem str_list (s : ByteArray) : (⟨s.data.toList.toArray⟩ : ByteArray) = s := by cases s; simp

set_option maxHeartbeats 1600000 in
set_option maxRecDepth 100000 in
theorem comments_big (a b c : ByteArray) (e : Int) (w : World) (h : 2147483647 < a.size ∨ (a.size ≤ 2147483647 ∧ 2147483647 < b.size) ∨ (a.size ≤ 2147483647 ∧ b.size ≤ 2147483647 ∧ 2147483647 < c.size)) :
    Calls Tryz.prog 4 #[.string a, .string b, .string c, .int .u8 e] w fun x w' => x = .returned (.bool true) ∧ w = w' := by
  rcases h with h | ⟨h1, h⟩ | ⟨h1, h2, h⟩
  all_goals
    go_enter Tryz.func4, Tryz.ntmps4
    go_wp2
    go_ret
    exact ⟨rfl, rfl⟩

set_option maxHeartbeats 1600000 in
set_option maxRecDepth 100000 in
theorem comments_other (a b c : ByteArray) (e : Int) (w : World) (h1 : a.size ≤ 2147483647) (h2 : b.size ≤ 2147483647) (h3 : c.size ≤ 2147483647)
    (h : ¬ IsName a.data.toList ∨ (IsName a.data.toList ∧ ¬ IsName b.data.toList) ∨ (IsName a.data.toList ∧ IsName b.data.toList ∧ 200 < c.size)) :
    Calls Tryz.prog 4 #[.string a, .string b, .string c, .int .u8 e] w fun x w' => x = .returned (.bool true) ∧ w = w' := by
  rcases h with h | ⟨h4, h⟩ | ⟨h4, h5, h⟩
  · have HA := Lib.hid (fun w => name_no a w (by omega) h)
    clear h
    go_enter Tryz.func4, Tryz.ntmps4
    go_wp2_with (go_at_call 13; refine (HA.out _).mono ?_; rintro x w' ⟨rfl, rfl⟩)
    go_ret
    exact ⟨rfl, rfl⟩
  · have HA := Lib.hid (fun w => name_yes a w h4)
    have HB := Lib.hid (fun w => name_no b w (by omega) h)
    clear h h4
    go_enter Tryz.func4, Tryz.ntmps4
    go_wp2_with fail
    refine (HA.out _).mono ?_
    rintro x w' ⟨rfl, rfl⟩
    go_wp2_with fail
    refine (HB.out _).mono ?_
    rintro x w' ⟨rfl, rfl⟩
    go_wp2_with fail
    go_ret
    exact ⟨rfl, rfl⟩
  · have HA := Lib.hid (fun w => name_yes a w h4)
    have HB := Lib.hid (fun w => name_yes b w h5)
    clear h4 h5
    go_enter Tryz.func4, Tryz.ntmps4
    go_wp2_with fail
    refine (HA.out _).mono ?_
    rintro x w' ⟨rfl, rfl⟩
    go_wp2_with fail
    refine (HB.out _).mono ?_
    rintro x w' ⟨rfl, rfl⟩
    go_wp2_with fail
    go_ret
    exact ⟨rfl, rfl⟩

def Printable (l : List UInt8) : Prop := ∀ i, i < l.length → 32 ≤ ch l i ∧ ch l i ≤ 126

/-- The tokens of the text, as they lie in memory. -/
theorem comments_tokens (a b c E : ByteArray) (h1 : IsName a.data.toList) (h2 : IsName b.data.toList) (h3 : c.size ≤ 200) (hc : Printable c.data.toList)
    (hE : E.data.toList = [10] ∨ E.data.toList = [13] ∨ E.data.toList = [13, 10]) (W : World) :
    Calls Tryz.prog 11 #[.string (a ++ ⟨#[35]⟩ ++ c ++ E ++ b ++ ⟨#[35]⟩ ++ c)] W fun x w' =>
      ∃ g cap, x = .returned (.tuple #[.slice (some ⟨g, 0, none⟩) 2 cap, .bool true]) ∧ w'.cell? ⟨g, 1, none⟩ = some (.string a) ∧ w'.cell? ⟨g, 5, none⟩ = some (.string b) ∧ Below W.heap.size W w' := by
  obtain ⟨ha, hL⟩ := comments_lexed a.data.toList c.data.toList E.data.toList b.data.toList h1 h2 hc hE
  have s1 : a.size ≤ 40 := by have := h1.2.1; rwa [len_data] at this
  have s2 : b.size ≤ 40 := by have := h2.2.1; rwa [len_data] at this
  have p1 : 0 < a.size := by have := h1.start.2; rwa [len_data] at this
  have p2 : 0 < b.size := by have := h2.start.2; rwa [len_data] at this
  have s3 : E.size ≤ 2 := by
    rw [← len_data]
    rcases hE with h | h | h <;> rw [h] <;> decide
  have hT : (a ++ ⟨#[35]⟩ ++ c ++ E ++ b ++ ⟨#[35]⟩ ++ c).data.toList = a.data.toList ++ ([35] ++ (c.data.toList ++ (E.data.toList ++ (b.data.toList ++ ([35] ++ c.data.toList))))) := by
    simp only [Joins.data_append, List.append_assoc]
  have hz : (a ++ ⟨#[35]⟩ ++ c ++ E ++ b ++ ⟨#[35]⟩ ++ c).size = a.size + 1 + c.size + E.size + b.size + 1 + c.size := by
    rw [← len_data, hT]
    simp only [List.length_append, len_data]
    simp only [List.length_cons, List.length_nil]
    omega
  rw [← hT] at ha hL
  refine (tokens_ok _ _ ha (by rw [hz]; omega) hL (by rw [hz]; simp; omega) W).mono ?_
  rintro x w' ⟨A, cap, rfl, hown, hb⟩
  obtain ⟨g, cap', hv⟩ := Joins.ownsRow_form hown (by simp)
  rw [hv] at hown
  injection hv with hA hl hcap
  subst hA
  refine ⟨g, cap, rfl, ?_, ?_, hb⟩
  · rw [hown.cellAt 1 (by simp)]
    simp [flat, Tk.cells]
  · rw [hown.cellAt 5 (by simp)]
    simp [flat, Tk.cells]

set_option maxHeartbeats 3200000 in
set_option maxRecDepth 100000 in
theorem comments_main (a b c : ByteArray) (e : Int) (w : World) (h1 : IsName a.data.toList) (h2 : IsName b.data.toList) (h3 : c.size ≤ 200) (he : 0 ≤ e ∧ e ≤ 255) (r : Int) (E : ByteArray) (hr : (r = 0 ∧ E = ⟨#[10]⟩) ∨ (r = 1 ∧ E = ⟨#[13]⟩) ∨ (r = 2 ∧ E = ⟨#[13, 10]⟩)) (hm : e % 3 = r) :
    Calls Tryz.prog 4 #[.string a, .string b, .string c, .int .u8 e] w fun x w' => x = .returned (.bool true) ∧ Below w.heap.size w w' := by
  have s1 : a.size ≤ 40 := by have := h1.2.1; rwa [len_data] at this
  have s2 : b.size ≤ 40 := by have := h2.2.1; rwa [len_data] at this
  have HA := Lib.hid (fun w => name_yes a w h1)
  have HB := Lib.hid (fun w => name_yes b w h2)
  go_enter Tryz.func4, Tryz.ntmps4
  go_wp2_with fail
  refine (HA.out _).mono ?_
  rintro x w' ⟨rfl, rfl⟩
  go_wp2_with fail
  refine (HB.out _).mono ?_
  rintro x w' ⟨rfl, rfl⟩
  clear HA HB
  go_wp2_with fail
  go_loop [8, 9] (fun v u => ∃ j : Nat, j ≤ c.size ∧ Hid (∀ i, i < j → 32 ≤ ch c.data.toList i ∧ ch c.data.toList i ≤ 126) ∧ v = .bool false ∧ u = .int .i64 j) (fun _ u => c.size - (intOf u).toNat)
  case atStart => exact ⟨0, by omega, fun i hi => absurd hi (by omega), rfl, rfl⟩
  case round =>
    obtain ⟨j, hj, HJ, rfl, rfl⟩ := hrel
    by_cases hlt : j < c.size
    · by_cases hl : 32 ≤ ch c.data.toList j ∧ ch c.data.toList j ≤ 126
      · have HJ2 : Hid (∀ i, i < j + 1 → 32 ≤ ch c.data.toList i ∧ ch c.data.toList i ≤ 126) := fun i hi => by
          by_cases e : i = j
          · rw [e]; exact hl
          · exact HJ.out i (by omega)
        rw [ch_byte c j hlt] at hl
        obtain ⟨l1, l2⟩ := hl
        go_wp2
        go_round
        case rel => exact ⟨j + 1, by omega, HJ2, rfl, by go_num⟩
        case measure => simp [intOf]; omega
      · rw [ch_byte c j hlt] at hl
        have hx : (c[j].toNat : Int) < 32 ∨ 126 < (c[j].toNat : Int) := by omega
        clear hl
        rcases hx with hx | hx
        all_goals
          go_wp2
          go_ret
          exact ⟨rfl, Below.refl _ _⟩
    · obtain rfl : j = c.size := by omega
      have hp : Printable c.data.toList := fun i hi => HJ.out i (by rwa [len_data] at hi)
      have HT := Lib.hid (fun W => comments_tokens a b c E h1 h2 h3 hp (by rcases hr with ⟨_, rfl⟩ | ⟨_, rfl⟩ | ⟨_, rfl⟩ <;> simp) W)
      clear hp h1 h2
      rcases hr with ⟨rfl, rfl⟩ | ⟨rfl, rfl⟩ | ⟨rfl, rfl⟩
      all_goals
        go_wp2_with fail
        refine (HT.out _).mono ?_
        rintro x w' ⟨g, cap, rfl, k1, k5, hb⟩
        have HB := Lib.hid (((Below.refl _ w).alloc (Nat.le_refl _) _).trans (hb.mono (by simp)))
        clear hb
        go_wp2_with fail
        go_ret
        exact ⟨rfl, HB.out⟩

/-- FnComments: true, whatever the input. -/
theorem comments_any (a b c : ByteArray) (e : Int) (he : 0 ≤ e ∧ e ≤ 255) (w : World) :
    Calls Tryz.prog 4 #[.string a, .string b, .string c, .int .u8 e] w fun x w' => x = .returned (.bool true) ∧ Below w.heap.size w w' := by
  have low : ∀ (x : Ending) (w' : World), x = .returned (.bool true) ∧ w = w' → x = .returned (.bool true) ∧ Below w.heap.size w w' := fun x w' ⟨h, h'⟩ => ⟨h, by rw [← h']; exact Below.refl _ _⟩
  by_cases ha : a.size ≤ 2147483647
  · by_cases hb : b.size ≤ 2147483647
    · by_cases hc : c.size ≤ 2147483647
      · by_cases h1 : IsName a.data.toList
        · by_cases h2 : IsName b.data.toList
          · by_cases h3 : c.size ≤ 200
            · have hm : e % 3 = 0 ∨ e % 3 = 1 ∨ e % 3 = 2 := by omega
              rcases hm with hm | hm | hm
              · exact comments_main a b c e w h1 h2 h3 he 0 ⟨#[10]⟩ (.inl ⟨rfl, rfl⟩) hm
              · exact comments_main a b c e w h1 h2 h3 he 1 ⟨#[13]⟩ (.inr (.inl ⟨rfl, rfl⟩)) hm
              · exact comments_main a b c e w h1 h2 h3 he 2 ⟨#[13, 10]⟩ (.inr (.inr ⟨rfl, rfl⟩)) hm
            · exact (comments_other a b c e w ha hb hc (.inr (.inr ⟨h1, h2, by omega⟩))).mono low
          · exact (comments_other a b c e w ha hb hc (.inr (.inl ⟨h1, h2⟩))).mono low
        · exact (comments_other a b c e w ha hb hc (.inl h1)).mono low
      · exact (comments_big a b c e w (.inr (.inr ⟨ha, hb, by omega⟩))).mono low
    · exact (comments_big a b c e w (.inr (.inl ⟨ha, by omega⟩))).mono low
  · exact (comments_big a b c e w (.inl (by omega))).mono low

end Go.Proofs.YthmdgegaejanaaaGreatDoor
