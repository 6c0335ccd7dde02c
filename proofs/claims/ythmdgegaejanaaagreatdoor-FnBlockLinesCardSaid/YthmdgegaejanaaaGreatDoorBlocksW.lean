/- BLOCK STRINGS: the walk of FnBlockLines: true at every input. -/
import Derived.Test.YthmdgegaejanaaaGreatDoorBlocks
namespace Go.Proofs.YthmdgegaejanaaaGreatDoor
open Go.RowKit

/-- A slice of n texts that lies in memory. -/
structure Texts (w : World) (A : Option Addr) (b o n cap : Nat) (f : Nat → ByteArray) : Prop where
  at_ : 0 < n → A = some ⟨b, o, none⟩
  cell : ∀ i, i < n → w.cell? ⟨b, o + i, none⟩ = some (.string (f i))
  cap : n ≤ cap

theorem Texts.drewN {w : World} {A : Option Addr} {b o n cap : Nat} {f : Nat → ByteArray} (h : Texts w A b o n cap f) (x : Nat) : Texts (w.drewN x) A b o n cap f :=
  ⟨h.at_, h.cell, h.cap⟩

/-- What zzFits1 says. -/
def FitsRes (n : Nat) (f : Nat → ByteArray) (x : Ending) : Prop := (x = .returned (.bool true) ∧ ∀ i, i < n → (f i).size ≤ 2147483647) ∨ x = .returned (.bool false)

set_option maxHeartbeats 1600000 in
set_option maxRecDepth 100000 in
theorem fits_some {w : World} {A : Option Addr} {b o n cap : Nat} {f : Nat → ByteArray} (hT : Texts w A b o n cap f) :
    Calls Tryz.prog 9 #[.slice A n cap] w fun x w' => FitsRes n f x ∧ w = w' := by
  have hcap := hT.cap
  by_cases h0 : n = 0
  · subst h0
    go_enter Tryz.func9, Tryz.ntmps9
    go_wp2_with fail
    go_loop [10] (fun u => u = .int .i64 0) (fun _ => 0)
    case atStart => rfl
    case round =>
      subst hrel
      go_wp2_with fail
      go_ret
      exact ⟨.inl ⟨rfl, fun i hi => by omega⟩, rfl⟩
  · obtain rfl := hT.at_ (by omega)
    by_cases hbig : 2147483647 < n
    · have d1 : decide ((2147483647 : Int) < (n : Int)) = true := by simp; omega
      clear hT
      go_enter Tryz.func9, Tryz.ntmps9
      go_wp2_with fail
      go_ret
      exact ⟨.inr rfl, rfl⟩
    have d1 : decide ((2147483647 : Int) < (n : Int)) = false := by simp; omega
    have HC := Lib.hid hT.cell
    clear hT
    go_enter Tryz.func9, Tryz.ntmps9
    go_wp2_with fail
    go_loop [10] (fun u => ∃ j : Nat, j ≤ n ∧ Hid (∀ i, i < j → (f i).size ≤ 2147483647) ∧ u = .int .i64 (j : Int)) (fun u => n - (intOf u).toNat)
    case atStart => exact ⟨0, by omega, fun i hi => by omega, rfl⟩
    case round =>
      obtain ⟨j, hj, HJ, rfl⟩ := hrel
      by_cases hlt : j < n
      · have hc := HC.out j hlt
        by_cases hbig : 2147483647 < (f j).size
        · have d2 : decide ((2147483647 : Int) < ((f j).size : Int)) = true := by simp; omega
          go_wp2_with fail
          go_ret
          exact ⟨.inr rfl, rfl⟩
        · have d2 : decide ((2147483647 : Int) < ((f j).size : Int)) = false := by simp; omega
          have HJ2 : Hid (∀ i, i < j + 1 → (f i).size ≤ 2147483647) := fun i hi => by
            by_cases e : i = j
            · rw [e]; omega
            · exact HJ.out i (by omega)
          go_wp2_with fail
          go_round
          case rel => exact ⟨j + 1, by omega, HJ2, by go_num⟩
          case measure => simp [intOf]; omega
      · obtain rfl : j = n := by omega
        go_wp2_with fail
        go_ret
        exact ⟨.inl ⟨rfl, HJ.out⟩, rfl⟩

def lsOf (f : Nat → ByteArray) (i : Nat) : List (List UInt8) := (List.range i).map fun j => (f j).data.toList
theorem lsOf_succ (f : Nat → ByteArray) (i : Nat) : lsOf f (i + 1) = lsOf f i ++ [(f i).data.toList] := by simp [lsOf, List.range_succ]
theorem lsOf_len (f : Nat → ByteArray) (i : Nat) : (lsOf f i).length = i := by simp [lsOf]
theorem lsOf_all {f : Nat → ByteArray} {i : Nat} (h : ∀ j, j < i → LineOk (f j).data.toList) : ∀ x ∈ lsOf f i, LineOk x := fun x hx => by
  obtain ⟨j, hj, rfl⟩ := List.mem_map.1 hx
  exact h j (List.mem_range.1 hj)

/-- What the loop has of the text. -/
def Built (P : Nat) (f : Nat → ByteArray) (i : Nat) (s : ByteArray) : Prop := s.data.toList = [34, 34, 34, 10] ++ (lsOf f i).flatMap (fun x => blanks P ++ (x ++ [10]))
def Wanted (f : Nat → ByteArray) (i : Nat) (s : ByteArray) : Prop := s.data.toList = Lib.join (lsOf f i) [10]

theorem Built.next {P : Nat} {f : Nat → ByteArray} {i : Nat} {s pad : ByteArray} (h : Built P f i s) (hp : pad = ba (blanks P)) : Built P f (i + 1) (s ++ (pad ++ f i ++ ⟨#[10]⟩)) := by
  subst hp
  unfold Built at h ⊢
  rw [lsOf_succ]
  simp only [Joins.data_append, h, List.flatMap_append, ba_list]
  simp
theorem Wanted.first {f : Nat → ByteArray} {i : Nat} {s : ByteArray} (h : Wanted f i s) (hi : ¬ 0 < i) : Wanted f (i + 1) (s ++ f i) := by
  obtain rfl : i = 0 := by omega
  unfold Wanted at h ⊢
  rw [lsOf_succ]
  simp only [Joins.data_append, h]
  show Lib.join [] [10] ++ _ = Lib.join ([] ++ [_]) [10]
  rw [List.nil_append, Lib.join_one, Lib.join_nil, List.nil_append]
theorem Wanted.next {f : Nat → ByteArray} {i : Nat} {s : ByteArray} (h : Wanted f i s) (hi : 0 < i) : Wanted f (i + 1) (s ++ ⟨#[10]⟩ ++ f i) := by
  unfold Wanted at h ⊢
  rw [lsOf_succ, join_snoc _ _ (by intro e; have := congrArg List.length e; rw [lsOf_len] at this; simp at this; omega)]
  simp only [Joins.data_append, h]
theorem Built.whole {P : Nat} {f : Nat → ByteArray} {i : Nat} {s pad : ByteArray} (h : Built P f i s) (hp : pad = ba (blanks P)) : s ++ (pad ++ ⟨#[34, 34, 34]⟩) = ba (textOf P (lsOf f i)) := by
  subst hp
  unfold Built at h
  apply ByteArray.ext
  apply Array.toList_inj.1
  rw [ba_list, text_flat]
  simp only [Joins.data_append, h, ba_list]
  simp

set_option maxHeartbeats 6400000 in
set_option maxRecDepth 100000 in
theorem blocks_main {w : World} {A : Option Addr} {b o n cap : Nat} {f : Nat → ByteArray} (hT : Texts w A b o n cap f) (h0 : 0 < n) (h8 : n ≤ 8) (y : Int) (hy0 : 0 ≤ y) (hy1 : y ≤ 255) :
    Calls Tryz.prog 3 #[.slice A n cap, .int .u8 y] w fun x w' => x = .returned (.bool true) ∧ Below w.heap.size w w' := by
  obtain rfl := hT.at_ (by omega)
  have hcap := hT.cap
  have HF := Lib.hid (fits_some hT)
  have HT := Lib.hid hT
  clear hT
  obtain ⟨P, hP, hP2⟩ : ∃ P : Nat, y % 13 = (P : Int) ∧ P ≤ 12 := ⟨(y % 13).toNat, by omega, by omega⟩
  have HPad := Lib.hid (blanks_extract P hP2)
  go_enter Tryz.func3, Tryz.ntmps3
  go_wp2_with fail
  refine HF.out.mono ?_
  rintro x w' ⟨hfr, rfl⟩
  rcases hfr with ⟨rfl, hz⟩ | rfl
  rotate_left
  · go_wp2_with fail
    go_ret
    exact ⟨rfl, Below.refl _ _⟩
  · have HZ := Lib.hid hz
    clear hz
    have g0 : ((n : Int) == 0) = false := by simp; omega
    have g8 : decide (8 < (n : Int)) = false := by simp; omega
    go_wp2_with fail
    have hps : ((⟨#[32, 32, 32, 32, 32, 32, 32, 32, 32, 32, 32, 32]⟩ : ByteArray).extract 0 P).size ≤ 12 := by rw [HPad.out, ba_size, blanks_len]; exact hP2
    generalize (⟨#[32, 32, 32, 32, 32, 32, 32, 32, 32, 32, 32, 32]⟩ : ByteArray).extract 0 P = pad at HPad hps ⊢
    clear hP HF
    go_loopg [6, 7, 27] n (fun m u v q wr => ∃ (i x : Nat) (s t : ByteArray), u = .string s ∧ v = .string t ∧ q = .int .i64 (i : Int) ∧ m = n - i ∧ i ≤ n ∧ s.size ≤ 4 + 213 * i ∧ t.size ≤ 201 * i ∧ wr = w.drewN x ∧ Hid (∀ j, j < i → LineOk (f j).data.toList) ∧ Hid (Built P f i s) ∧ Hid (Wanted f i t))
    case atStart => exact ⟨0, 0, _, _, rfl, rfl, rfl, rfl, by omega, by decide, by decide, rfl, fun j hj => by omega, rfl, rfl⟩
    case round =>
      obtain ⟨i, x, s, t, rfl, rfl, rfl, rfl, hi, hs, ht, rfl, HJ, HB, HW⟩ := hrel
      by_cases hlt : i < n
      · have hc := (HT.out.drewN x).cell i hlt
        have hz := HZ.out i hlt
        by_cases hok : LineOk (f i).data.toList
        · have HPl := Lib.hid (fun w => plain_yes (f i) w hok.1)
          have hsz : (f i).size ≤ 200 := by have := hok.1.1; rwa [len_data] at this
          have hpos : 0 < (f i).size := by have := hok.2.1; rwa [len_data] at this
          have hne := (not_empty (f i) hpos).1
          have h32 := hok.2.2
          rw [ch_byte (f i) 0 hpos] at h32
          have b32 : (((f i)[0].toNat : Int) == 32) = false := by simpa using h32
          have HJ2 : Hid (∀ j, j < i + 1 → LineOk (f j).data.toList) := fun j hj => by
            by_cases e : j = i
            · rw [e]; exact hok
            · exact HJ.out j (by omega)
          clear hok h32
          have HB2 := Lib.hid (HB.out.next HPad.out)
          have hx : (⟨#[10]⟩ : ByteArray).size = 1 := rfl
          by_cases hi0 : 0 < i
          · have HW2 := Lib.hid (HW.out.next hi0)
            go_wp2_with (go_at_call 10; refine (HPl.out _).mono ?_; rintro x w' ⟨rfl, rfl⟩)
            go_roundg (n - (i + 1))
            case measure => omega
            case rel => exact ⟨i + 1, x, _, _, rfl, rfl, by go_num, rfl, by omega, by simp only [ByteArray.size_append]; omega, by simp only [ByteArray.size_append]; omega, rfl, HJ2, HB2, HW2⟩
          · have HW2 := Lib.hid (HW.out.first hi0)
            go_wp2_with (go_at_call 10; refine (HPl.out _).mono ?_; rintro x w' ⟨rfl, rfl⟩)
            go_roundg (n - (i + 1))
            case measure => omega
            case rel => exact ⟨i + 1, x, _, _, rfl, rfl, by go_num, rfl, by omega, by simp only [ByteArray.size_append]; omega, by simp only [ByteArray.size_append]; omega, rfl, HJ2, HB2, HW2⟩
        · by_cases hp : Plain (f i).data.toList
          · have HPl := Lib.hid (fun w => plain_yes (f i) w hp)
            by_cases hpos : 0 < (f i).size
            · have hne := (not_empty (f i) hpos).1
              have h32 : ch (f i).data.toList 0 = 32 := by
                by_cases e : ch (f i).data.toList 0 = 32
                · exact e
                · exact absurd (show LineOk (f i).data.toList from ⟨hp, by rw [len_data]; exact hpos, e⟩) hok
              rw [ch_byte (f i) 0 hpos] at h32
              have b32 : (((f i)[0].toNat : Int) == 32) = true := by simpa using h32
              clear hok h32 hp
              go_wp2_with (go_at_call 10; refine (HPl.out _).mono ?_; rintro x w' ⟨rfl, rfl⟩)
              go_ret
              exact ⟨rfl, below_drewN (Below.refl _ _) _⟩
            · have hem := (is_empty (f i) (by omega)).1
              clear hok hp
              go_wp2_with (go_at_call 10; refine (HPl.out _).mono ?_; rintro x w' ⟨rfl, rfl⟩)
              go_ret
              exact ⟨rfl, below_drewN (Below.refl _ _) _⟩
          · have HPl := Lib.hid (fun w => plain_no (f i) w (by omega) hp)
            clear hok hp
            go_wp2_with (go_at_call 10; refine (HPl.out _).mono ?_; rintro x w' ⟨rfl, rfl⟩)
            go_ret
            exact ⟨rfl, below_drewN (Below.refl _ _) _⟩
      · obtain rfl : i = n := by omega
        have hT2 := HB.out.whole HPad.out
        have hls := lsOf_all HJ.out
        have hln := lsOf_len f i
        have HTK := Lib.hid (fun W => blocks_tokens (P := P) hls (by omega) (by omega) hP2 W)
        have HSU := Lib.hid (fun W => sure_law (P := P) hls (by omega) hP2 W)
        have HT2 := Lib.hid hT2
        have hwant : t = ba (Lib.join (lsOf f i) [10]) := by
          apply ByteArray.ext
          apply Array.toList_inj.1
          exact HW.out
        rw [← hT2, ← hwant] at HTK
        rw [← hT2] at HSU
        have HWA := Lib.hid hwant
        clear hT2 hls hln hwant HB HW HJ HT HPad
        go_wp2_with fail
        refine (HTK.out _).mono ?_
        rintro y1 W1 ⟨g, cap2, rfl, k0, k1, kl, hb⟩
        have HB1 := Lib.hid (below_drewN (Below.refl _ w) x |>.trans hb)
        have HK := Lib.hid (And.intro k0 k1)
        clear hb k0 k1 HTK
        go_wp2_with fail
        refine (HSU.out _).mono ?_
        rintro y2 W2 ⟨⟨u, rfl⟩, hb2⟩
        have k0 := (hb2.cell (p := ⟨g, 0, none⟩) kl).trans HK.out.1
        have k1 := (hb2.cell (p := ⟨g, 1, none⟩) kl).trans HK.out.2
        have HB2 := Lib.hid (HB1.out.trans (hb2.mono HB1.out.size))
        clear hb2 HSU HK
        cases u
        all_goals
          go_wp2_with fail
          go_ret
          exact ⟨rfl, HB2.out⟩

set_option maxHeartbeats 1600000 in
set_option maxRecDepth 100000 in
theorem blocks_other {w : World} {A : Option Addr} {b o n cap : Nat} {f : Nat → ByteArray} (hT : Texts w A b o n cap f) (h : n = 0 ∨ (0 < n ∧ 8 < n)) (y : Int) :
    Calls Tryz.prog 3 #[.slice A n cap, .int .u8 y] w fun x w' => x = .returned (.bool true) ∧ Below w.heap.size w w' := by
  have HF := Lib.hid (fits_some hT)
  clear hT
  rcases h with rfl | ⟨h0, h8⟩
  · go_enter Tryz.func3, Tryz.ntmps3
    go_wp2_with fail
    refine HF.out.mono ?_
    rintro x w' ⟨hfr, rfl⟩
    rcases hfr with ⟨rfl, _⟩ | rfl
    all_goals
      go_wp2_with fail
      go_ret
      exact ⟨rfl, Below.refl _ _⟩
  · have g0 : ((n : Int) == 0) = false := by simp; omega
    have g8 : decide (8 < (n : Int)) = true := by simp; omega
    go_enter Tryz.func3, Tryz.ntmps3
    go_wp2_with fail
    refine HF.out.mono ?_
    rintro x w' ⟨hfr, rfl⟩
    rcases hfr with ⟨rfl, _⟩ | rfl
    all_goals
      go_wp2_with fail
      go_ret
      exact ⟨rfl, Below.refl _ _⟩

/-- FnBlockLines: true, whatever the input. -/
theorem blocks_any {w : World} {A : Option Addr} {b o n cap : Nat} {f : Nat → ByteArray} (hT : Texts w A b o n cap f) (y : Int) (hy0 : 0 ≤ y) (hy1 : y ≤ 255) :
    Calls Tryz.prog 3 #[.slice A n cap, .int .u8 y] w fun x w' => x = .returned (.bool true) ∧ Below w.heap.size w w' := by
  by_cases h0 : n = 0
  · exact blocks_other hT (.inl h0) y
  · by_cases h8 : 8 < n
    · exact blocks_other hT (.inr ⟨by omega, h8⟩) y
    · exact blocks_main hT (by omega) (by omega) y hy0 hy1

end Go.Proofs.YthmdgegaejanaaaGreatDoor
