/- NUMBERS THAT ARE REFUSED: the walk of FnNumberBent: true at every input. -/
import Derived.Test.YthmdgegaejanaaaGreatDoorLawNumbers
import Derived.Test.YthmdgegaejanaaaGreatDoorComments
namespace Go.Proofs.YthmdgegaejanaaaGreatDoor
open Go.RowKit

set_option maxHeartbeats 1600000 in
set_option maxRecDepth 100000 in
theorem numbers_big (a b : ByteArray) (x : Int) (w : World) (h : 2147483647 < a.size ∨ (a.size ≤ 2147483647 ∧ 2147483647 < b.size)) :
    Calls Tryz.prog 6 #[.string a, .string b, .int .u8 x] w fun x w' => x = .returned (.bool true) ∧ w = w' := by
  rcases h with h | ⟨h1, h⟩
  all_goals
    go_enter Tryz.func6, Tryz.ntmps6
    go_wp2
    go_ret
    exact ⟨rfl, rfl⟩

set_option maxHeartbeats 1600000 in
set_option maxRecDepth 100000 in
theorem numbers_other (a b : ByteArray) (x : Int) (w : World) (h1 : a.size ≤ 2147483647) (h2 : b.size ≤ 2147483647)
    (h : ¬ Digits a.data.toList ∨ (Digits a.data.toList ∧ ¬ Digits b.data.toList) ∨ (Digits a.data.toList ∧ Digits b.data.toList ∧ ch a.data.toList 0 = 48)) :
    Calls Tryz.prog 6 #[.string a, .string b, .int .u8 x] w fun x w' => x = .returned (.bool true) ∧ w = w' := by
  rcases h with h | ⟨h4, h⟩ | ⟨h4, h5, h⟩
  · have HA := Lib.hid (fun w => digits_no a w (by omega) h)
    clear h
    go_enter Tryz.func6, Tryz.ntmps6
    go_wp2_with (go_at_call 16; refine (HA.out _).mono ?_; rintro x w' ⟨rfl, rfl⟩)
    go_ret
    exact ⟨rfl, rfl⟩
  · have HA := Lib.hid (fun w => digits_yes a w h4)
    have HB := Lib.hid (fun w => digits_no b w (by omega) h)
    clear h h4
    go_enter Tryz.func6, Tryz.ntmps6
    go_wp2_with fail
    refine (HA.out _).mono ?_
    rintro x w' ⟨rfl, rfl⟩
    go_wp2_with fail
    refine (HB.out _).mono ?_
    rintro x w' ⟨rfl, rfl⟩
    go_wp2_with fail
    go_ret
    exact ⟨rfl, rfl⟩
  · have HA := Lib.hid (fun w => digits_yes a w h4)
    have HB := Lib.hid (fun w => digits_yes b w h5)
    have hp : 0 < a.size := by have := h4.pos; rwa [len_data] at this
    rw [ch_byte a 0 hp] at h
    have hb0 : ((a[0].toNat : Int) == 48) = true := by simpa using h
    clear h4 h5 h
    go_enter Tryz.func6, Tryz.ntmps6
    go_wp2_with fail
    refine (HA.out _).mono ?_
    rintro x w' ⟨rfl, rfl⟩
    go_wp2_with fail
    refine (HB.out _).mono ?_
    rintro x w' ⟨rfl, rfl⟩
    go_wp2_with fail
    go_ret
    exact ⟨rfl, rfl⟩

set_option maxHeartbeats 6400000 in
set_option maxRecDepth 100000 in
theorem numbers_main (a b : ByteArray) (x : Int) (w : World) (h1 : Digits a.data.toList) (h2 : Digits b.data.toList) (h48 : ch a.data.toList 0 ≠ 48) (hx : 0 ≤ x ∧ x ≤ 255) (r : Int) (T : ByteArray) (hm : x % 10 = r) (hT : Bend (T ++ (⟨#[32]⟩ : ByteArray)))
    (hr : (r = 0 ∧ T = (⟨#[48]⟩ : ByteArray) ++ a) ∨ (r = 1 ∧ T = ⟨#[45]⟩) ∨ (r = 2 ∧ T = a ++ (⟨#[46]⟩ : ByteArray)) ∨ (r = 3 ∧ T = a ++ (⟨#[101]⟩ : ByteArray)) ∨ (r = 4 ∧ T = a ++ (⟨#[46]⟩ : ByteArray) ++ b ++ (⟨#[101, 43]⟩ : ByteArray))
      ∨ (r = 5 ∧ T = (⟨#[43]⟩ : ByteArray) ++ a) ∨ (r = 6 ∧ T = (⟨#[46]⟩ : ByteArray) ++ b) ∨ (r = 7 ∧ T = a ++ (⟨#[46, 101]⟩ : ByteArray) ++ b) ∨ (r = 8 ∧ T = (⟨#[45, 48]⟩ : ByteArray) ++ a) ∨ (r = 9 ∧ T = a ++ (⟨#[69, 45]⟩ : ByteArray))) :
    Calls Tryz.prog 6 #[.string a, .string b, .int .u8 x] w fun x w' => x = .returned (.bool true) ∧ Below w.heap.size w w' := by
  have s1 : a.size ≤ 20 := by have := h1.2.1; rwa [len_data] at this
  have s2 : b.size ≤ 20 := by have := h2.2.1; rwa [len_data] at this
  have hp : 0 < a.size := by have := h1.pos; rwa [len_data] at this
  rw [ch_byte a 0 hp] at h48
  have hb0 : ((a[0].toNat : Int) == 48) = false := by simpa using h48
  have HA := Lib.hid (fun w => digits_yes a w h1)
  have HB := Lib.hid (fun w => digits_yes b w h2)
  have HT := Lib.hid (fun w => sure_of _ _ _ _ (fun w => lexed_one _ 0 true false hT.one hT.some (.inl rfl) w) w)
  have HR := Lib.hid (fun w => refused_yes _ hT.bad w)
  clear h1 h2 h48 hT
  go_enter Tryz.func6, Tryz.ntmps6
  go_wp2_with fail
  refine (HA.out _).mono ?_
  rintro x w' ⟨rfl, rfl⟩
  go_wp2_with fail
  refine (HB.out _).mono ?_
  rintro x w' ⟨rfl, rfl⟩
  clear HA HB
  rcases hr with ⟨rfl, rfl⟩ | ⟨rfl, rfl⟩ | ⟨rfl, rfl⟩ | ⟨rfl, rfl⟩ | ⟨rfl, rfl⟩ | ⟨rfl, rfl⟩ | ⟨rfl, rfl⟩ | ⟨rfl, rfl⟩ | ⟨rfl, rfl⟩ | ⟨rfl, rfl⟩
  all_goals
    go_wp2_with fail
    refine (HT.out _).mono ?_
    rintro x w1 ⟨rfl, hb⟩
    have HB := Lib.hid (((Below.refl _ w).alloc (Nat.le_refl _) _).trans (hb.mono (by simp)))
    clear hb
    go_wp2_with fail
    refine (HR.out _).mono ?_
    rintro x w2 ⟨rfl, hb⟩
    have HB2 := Lib.hid (HB.out.trans (hb.mono HB.out.size))
    clear hb
    go_wp2_with fail
    go_ret
    exact ⟨rfl, HB2.out⟩

/-- FnNumberBent: true, whatever the input. -/
theorem numbers_any (a b : ByteArray) (x : Int) (hx : 0 ≤ x ∧ x ≤ 255) (w : World) :
    Calls Tryz.prog 6 #[.string a, .string b, .int .u8 x] w fun x w' => x = .returned (.bool true) ∧ Below w.heap.size w w' := by
  have low : ∀ (x : Ending) (w' : World), x = .returned (.bool true) ∧ w = w' → x = .returned (.bool true) ∧ Below w.heap.size w w' := fun x w' ⟨h, h'⟩ => ⟨h, by rw [← h']; exact Below.refl _ _⟩
  by_cases ha : a.size ≤ 2147483647
  · by_cases hb : b.size ≤ 2147483647
    · by_cases h1 : Digits a.data.toList
      · by_cases h2 : Digits b.data.toList
        · by_cases h3 : ch a.data.toList 0 = 48
          · exact (numbers_other a b x w ha hb (.inr (.inr ⟨h1, h2, h3⟩))).mono low
          · have hm : x % 10 = 0 ∨ x % 10 = 1 ∨ x % 10 = 2 ∨ x % 10 = 3 ∨ x % 10 = 4 ∨ x % 10 = 5 ∨ x % 10 = 6 ∨ x % 10 = 7 ∨ x % 10 = 8 ∨ x % 10 = 9 := by omega
            rcases hm with hm | hm | hm | hm | hm | hm | hm | hm | hm | hm
            · exact numbers_main a b x w h1 h2 h3 hx 0 _ hm (bend0 a b h1 h2 h3) (by simp)
            · exact numbers_main a b x w h1 h2 h3 hx 1 _ hm (bend1 a b h1 h2 h3) (by simp)
            · exact numbers_main a b x w h1 h2 h3 hx 2 _ hm (bend2 a b h1 h2 h3) (by simp)
            · exact numbers_main a b x w h1 h2 h3 hx 3 _ hm (bend3 a b h1 h2 h3) (by simp)
            · exact numbers_main a b x w h1 h2 h3 hx 4 _ hm (bend4 a b h1 h2 h3) (by simp)
            · exact numbers_main a b x w h1 h2 h3 hx 5 _ hm (bend5 a b h1 h2 h3) (by simp)
            · exact numbers_main a b x w h1 h2 h3 hx 6 _ hm (bend6 a b h1 h2 h3) (by simp)
            · exact numbers_main a b x w h1 h2 h3 hx 7 _ hm (bend7 a b h1 h2 h3) (by simp)
            · exact numbers_main a b x w h1 h2 h3 hx 8 _ hm (bend8 a b h1 h2 h3) (by simp)
            · exact numbers_main a b x w h1 h2 h3 hx 9 _ hm (bend9 a b h1 h2 h3) (by simp)
        · exact (numbers_other a b x w ha hb (.inr (.inl ⟨h1, h2⟩))).mono low
      · exact (numbers_other a b x w ha hb (.inl h1)).mono low
    · exact (numbers_big a b x w (.inr ⟨ha, by omega⟩)).mono low
  · exact (numbers_big a b x w (.inl (by omega))).mono low

end Go.Proofs.YthmdgegaejanaaaGreatDoor
