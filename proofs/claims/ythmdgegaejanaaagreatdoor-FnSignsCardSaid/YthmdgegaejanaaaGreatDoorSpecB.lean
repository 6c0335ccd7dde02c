/- THE REFERENCE's LEXER: numerals, by the shape of what stands there. -/
import Derived.Test.YthmdgegaejanaaaGreatDoorSpecA
namespace Go.Proofs.YthmdgegaejanaaaGreatDoor
open Go.RowKit

set_option maxHeartbeats 1600000 in
set_option maxRecDepth 100000 in
theorem numeral_minus {w : World} {g : Nat} {s : ByteArray} (hc : w.cell? ⟨g, 0, none⟩ = some (.string s)) (hn : s.size ≤ 4611686018427387904) (i : Nat) (hi : i < s.size) (h0 : ch s.data.toList i = 45) (h1 : ¬ Digit (ch s.data.toList (i + 1))) :
    Calls Tryz.prog 54 #[.pointer (some ⟨g, 0, none⟩), .int .i64 (i : Int)] w fun x w' => x = .returned (.tuple #[.int .i64 0, .int .i64 0]) ∧ w = w' := by
  have HX := Lib.hid (next_any hc ((i : Int)) (by omega))
  rw [show ((i : Int)).toNat = i by omega, nx_in (by rw [len_data]; omega), h0] at HX
  have HD := Lib.hid (digits_to hc hn (i + 1) (i + 1) (Nat.le_refl _) (by omega) (fun j a b => by omega) h1)
  rw [Int.natCast_add] at HD
  clear h0 h1
  go_enter Tryz.func54, Tryz.ntmps54
  go_wp2_with fail
  refine (HX.out).mono ?_
  rintro x w' ⟨rfl, rfl⟩
  go_wp2_with fail
  refine (HD.out).mono ?_
  rintro x w' ⟨rfl, rfl⟩
  go_wp2_with fail
  go_ret2
  exact ⟨rfl, rfl⟩

set_option maxHeartbeats 1600000 in
set_option maxRecDepth 100000 in
theorem numeral_minus_nought {w : World} {g : Nat} {s : ByteArray} (hc : w.cell? ⟨g, 0, none⟩ = some (.string s)) (hn : s.size ≤ 4611686018427387904) (i e : Nat) (hie : i + 2 < e) (hen : e ≤ s.size) (h0 : ch s.data.toList i = 45) (h1 : ch s.data.toList (i + 1) = 48) (hin : ∀ j, i + 1 ≤ j → j < e → Digit (ch s.data.toList j)) (hout : ¬ Digit (ch s.data.toList e)) :
    Calls Tryz.prog 54 #[.pointer (some ⟨g, 0, none⟩), .int .i64 (i : Int)] w fun x w' => x = .returned (.tuple #[.int .i64 0, .int .i64 0]) ∧ w = w' := by
  have HX := Lib.hid (next_any hc ((i : Int)) (by omega))
  rw [show ((i : Int)).toNat = i by omega, nx_in (by rw [len_data]; omega), h0] at HX
  have HD := Lib.hid (digits_to hc hn (i + 1) e (by omega) hen hin hout)
  rw [Int.natCast_add] at HD
  have hb : ((s[i + 1]'(by omega)).toNat : Int) = 48 := by rw [← ch_byte s (i + 1) (by omega)]; exact h1
  have hb1 : (((s[i + 1]'(by omega)).toNat : Int) == 48) = true := by simpa using hb
  have ee : ((e : Int) == (i : Int) + 1) = false := by simp; omega
  clear hb h0 h1 hin hout
  go_enter Tryz.func54, Tryz.ntmps54
  go_wp2_with fail
  refine (HX.out).mono ?_
  rintro x w' ⟨rfl, rfl⟩
  go_wp2_with fail
  refine (HD.out).mono ?_
  rintro x w' ⟨rfl, rfl⟩
  go_wp2_with fail
  go_ret2
  exact ⟨rfl, rfl⟩

set_option maxHeartbeats 1600000 in
set_option maxRecDepth 100000 in
theorem numeral_nought {w : World} {g : Nat} {s : ByteArray} (hc : w.cell? ⟨g, 0, none⟩ = some (.string s)) (hn : s.size ≤ 4611686018427387904) (i e : Nat) (hie : i + 1 < e) (hen : e ≤ s.size)
    (h0 : ch s.data.toList i = 48) (hin : ∀ j, i ≤ j → j < e → Digit (ch s.data.toList j)) (hout : ¬ Digit (ch s.data.toList e)) :
    Calls Tryz.prog 54 #[.pointer (some ⟨g, 0, none⟩), .int .i64 (i : Int)] w fun x w' => x = .returned (.tuple #[.int .i64 0, .int .i64 0]) ∧ w = w' := by
  have HX := Lib.hid (next_any hc ((i : Int)) (by omega))
  rw [show ((i : Int)).toNat = i by omega, nx_in (by rw [len_data]; omega), h0] at HX
  have HD := Lib.hid (digits_to hc hn i e (by omega) hen hin hout)
  have hb : ((s[i]'(by omega)).toNat : Int) = 48 := by rw [← ch_byte s i (by omega)]; exact h0
  have hb1 : (((s[i]'(by omega)).toNat : Int) == 48) = true := by simpa using hb
  have ee : ((e : Int) == (i : Int)) = false := by simp; omega
  clear hb h0 hin hout
  go_enter Tryz.func54, Tryz.ntmps54
  go_wp2_with fail
  refine (HX.out).mono ?_
  rintro x w' ⟨rfl, rfl⟩
  go_wp2_with fail
  refine (HD.out).mono ?_
  rintro x w' ⟨rfl, rfl⟩
  go_wp2_with fail
  go_ret2
  exact ⟨rfl, rfl⟩

set_option maxHeartbeats 1600000 in
set_option maxRecDepth 100000 in
theorem numeral_point {w : World} {g : Nat} {s : ByteArray} (hc : w.cell? ⟨g, 0, none⟩ = some (.string s)) (hn : s.size ≤ 4611686018427387904) (i e : Nat) (hie : i < e) (hen : e < s.size) (h48 : ch s.data.toList i ≠ 48) (hin : ∀ j, i ≤ j → j < e → Digit (ch s.data.toList j)) (h1 : ch s.data.toList e = 46) (h2 : ¬ Digit (ch s.data.toList (e + 1))) :
    Calls Tryz.prog 54 #[.pointer (some ⟨g, 0, none⟩), .int .i64 (i : Int)] w fun x w' => x = .returned (.tuple #[.int .i64 0, .int .i64 0]) ∧ w = w' := by
  have HD := Lib.hid (digits_to hc hn i e (by omega) (by omega) hin (by rw [h1]; unfold Digit; omega))
  have hd0 := hin i (Nat.le_refl _) hie
  have HX := Lib.hid (next_any hc (i : Int) (by omega))
  rw [show (i : Int).toNat = i by omega, nx_in (by rw [len_data]; omega)] at HX
  have hb : ((s[i]'(by omega)).toNat : Int) = ch s.data.toList i := (ch_byte s i (by omega)).symm
  have hb1 : (((s[i]'(by omega)).toNat : Int) == 48) = false := by rw [hb]; simpa using h48
  generalize ch s.data.toList i = c at hd0 HX h48
  have b0 : (c == 45) = false := by unfold Digit at hd0; simp; omega
  have ee : ((e : Int) == (i : Int)) = false := by simp; omega
  clear hb hd0 h48
  have HE := Lib.hid (next_any hc ((e : Int)) (by omega))
  rw [show ((e : Int)).toNat = e by omega, nx_in (by rw [len_data]; omega), h1] at HE
  have HD2 := Lib.hid (digits_to hc hn (e + 1) (e + 1) (Nat.le_refl _) (by omega) (fun j a b => by omega) h2)
  rw [Int.natCast_add] at HD2
  clear hin h1 h2
  go_enter Tryz.func54, Tryz.ntmps54
  go_wp2_with fail
  refine (HX.out).mono ?_
  rintro x w' ⟨rfl, rfl⟩
  go_wp2_with fail
  refine (HD.out).mono ?_
  rintro x w' ⟨rfl, rfl⟩
  go_wp2_with fail
  refine (HE.out).mono ?_
  rintro x w' ⟨rfl, rfl⟩
  go_wp2_with fail
  refine (HD2.out).mono ?_
  rintro x w' ⟨rfl, rfl⟩
  go_wp2_with fail
  go_ret2
  exact ⟨rfl, rfl⟩

set_option maxHeartbeats 1600000 in
set_option maxRecDepth 100000 in
theorem numeral_exp {w : World} {g : Nat} {s : ByteArray} (hc : w.cell? ⟨g, 0, none⟩ = some (.string s)) (hn : s.size ≤ 4611686018427387904) (i e : Nat) (hie : i < e) (hen : e + 1 < s.size) (h48 : ch s.data.toList i ≠ 48) (hin : ∀ j, i ≤ j → j < e → Digit (ch s.data.toList j)) (h1 : ch s.data.toList e = 101) (h2 : ¬ Digit (ch s.data.toList (e + 1)))
    (h3 : ch s.data.toList (e + 1) ≠ 43) (h4 : ch s.data.toList (e + 1) ≠ 45) :
    Calls Tryz.prog 54 #[.pointer (some ⟨g, 0, none⟩), .int .i64 (i : Int)] w fun x w' => x = .returned (.tuple #[.int .i64 0, .int .i64 0]) ∧ w = w' := by
  have HD := Lib.hid (digits_to hc hn i e (by omega) (by omega) hin (by rw [h1]; unfold Digit; omega))
  have hd0 := hin i (Nat.le_refl _) hie
  have HX := Lib.hid (next_any hc (i : Int) (by omega))
  rw [show (i : Int).toNat = i by omega, nx_in (by rw [len_data]; omega)] at HX
  have hb : ((s[i]'(by omega)).toNat : Int) = ch s.data.toList i := (ch_byte s i (by omega)).symm
  have hb1 : (((s[i]'(by omega)).toNat : Int) == 48) = false := by rw [hb]; simpa using h48
  generalize ch s.data.toList i = c at hd0 HX h48
  have b0 : (c == 45) = false := by unfold Digit at hd0; simp; omega
  have ee : ((e : Int) == (i : Int)) = false := by simp; omega
  clear hb hd0 h48
  have HE := Lib.hid (next_any hc ((e : Int)) (by omega))
  rw [show ((e : Int)).toNat = e by omega, nx_in (by rw [len_data]; omega), h1] at HE
  have HD2 := Lib.hid (digits_to hc hn (e + 1) (e + 1) (Nat.le_refl _) (by omega) (fun j a b => by omega) h2)
  rw [Int.natCast_add] at HD2
  have HF := Lib.hid (next_any hc ((e : Int) + 1) (by omega))
  rw [show ((e : Int) + 1).toNat = e + 1 by omega, nx_in (by rw [len_data]; omega)] at HF
  generalize ch s.data.toList (e + 1) = d at h2 h3 h4 HF
  have b1 : (d == 43) = false := by simpa using h3
  have b2 : (d == 45) = false := by simpa using h4
  clear hin h1 h2 h3 h4
  go_enter Tryz.func54, Tryz.ntmps54
  go_wp2_with fail
  refine (HX.out).mono ?_
  rintro x w' ⟨rfl, rfl⟩
  go_wp2_with fail
  refine (HD.out).mono ?_
  rintro x w' ⟨rfl, rfl⟩
  go_wp2_with fail
  refine (HE.out).mono ?_
  rintro x w' ⟨rfl, rfl⟩
  go_wp2_with fail
  refine (HE.out).mono ?_
  rintro x w' ⟨rfl, rfl⟩
  go_wp2_with fail
  refine (HF.out).mono ?_
  rintro x w' ⟨rfl, rfl⟩
  go_wp2_with fail
  refine (HD2.out).mono ?_
  rintro x w' ⟨rfl, rfl⟩
  go_wp2_with fail
  go_ret2
  exact ⟨rfl, rfl⟩

set_option maxHeartbeats 1600000 in
set_option maxRecDepth 100000 in
theorem numeral_exp_minus {w : World} {g : Nat} {s : ByteArray} (hc : w.cell? ⟨g, 0, none⟩ = some (.string s)) (hn : s.size ≤ 4611686018427387904) (i e : Nat) (hie : i < e) (hen : e + 1 < s.size) (h48 : ch s.data.toList i ≠ 48) (hin : ∀ j, i ≤ j → j < e → Digit (ch s.data.toList j)) (h1 : ch s.data.toList e = 69) (h2 : ch s.data.toList (e + 1) = 45) (h3 : ¬ Digit (ch s.data.toList (e + 2))) :
    Calls Tryz.prog 54 #[.pointer (some ⟨g, 0, none⟩), .int .i64 (i : Int)] w fun x w' => x = .returned (.tuple #[.int .i64 0, .int .i64 0]) ∧ w = w' := by
  have HD := Lib.hid (digits_to hc hn i e (by omega) (by omega) hin (by rw [h1]; unfold Digit; omega))
  have hd0 := hin i (Nat.le_refl _) hie
  have HX := Lib.hid (next_any hc (i : Int) (by omega))
  rw [show (i : Int).toNat = i by omega, nx_in (by rw [len_data]; omega)] at HX
  have hb : ((s[i]'(by omega)).toNat : Int) = ch s.data.toList i := (ch_byte s i (by omega)).symm
  have hb1 : (((s[i]'(by omega)).toNat : Int) == 48) = false := by rw [hb]; simpa using h48
  generalize ch s.data.toList i = c at hd0 HX h48
  have b0 : (c == 45) = false := by unfold Digit at hd0; simp; omega
  have ee : ((e : Int) == (i : Int)) = false := by simp; omega
  clear hb hd0 h48
  have HE := Lib.hid (next_any hc ((e : Int)) (by omega))
  rw [show ((e : Int)).toNat = e by omega, nx_in (by rw [len_data]; omega), h1] at HE
  have HF := Lib.hid (next_any hc ((e : Int) + 1) (by omega))
  rw [show ((e : Int) + 1).toNat = e + 1 by omega, nx_in (by rw [len_data]; omega), h2] at HF
  have HD2 := Lib.hid (digits_to hc hn (e + 2) (e + 2) (Nat.le_refl _) (by omega) (fun j a b => by omega) h3)
  rw [show ((e + 2 : Nat) : Int) = (e : Int) + 1 + 1 by omega] at HD2
  clear hin h1 h2 h3
  go_enter Tryz.func54, Tryz.ntmps54
  go_wp2_with fail
  refine (HX.out).mono ?_
  rintro x w' ⟨rfl, rfl⟩
  go_wp2_with fail
  refine (HD.out).mono ?_
  rintro x w' ⟨rfl, rfl⟩
  go_wp2_with fail
  refine (HE.out).mono ?_
  rintro x w' ⟨rfl, rfl⟩
  go_wp2_with fail
  refine (HE.out).mono ?_
  rintro x w' ⟨rfl, rfl⟩
  go_wp2_with fail
  refine (HF.out).mono ?_
  rintro x w' ⟨rfl, rfl⟩
  go_wp2_with fail
  refine (HD2.out).mono ?_
  rintro x w' ⟨rfl, rfl⟩
  go_wp2_with fail
  go_ret2
  exact ⟨rfl, rfl⟩

set_option maxHeartbeats 1600000 in
set_option maxRecDepth 100000 in
theorem numeral_frac_plus {w : World} {g : Nat} {s : ByteArray} (hc : w.cell? ⟨g, 0, none⟩ = some (.string s)) (hn : s.size ≤ 4611686018427387904) (i e f : Nat) (hie : i < e) (hef : e + 1 < f) (hfn : f + 1 < s.size) (h48 : ch s.data.toList i ≠ 48) (hin : ∀ j, i ≤ j → j < e → Digit (ch s.data.toList j)) (h1 : ch s.data.toList e = 46)
    (hin2 : ∀ j, e + 1 ≤ j → j < f → Digit (ch s.data.toList j)) (h2 : ch s.data.toList f = 101) (h3 : ch s.data.toList (f + 1) = 43) (h4 : ¬ Digit (ch s.data.toList (f + 2))) :
    Calls Tryz.prog 54 #[.pointer (some ⟨g, 0, none⟩), .int .i64 (i : Int)] w fun x w' => x = .returned (.tuple #[.int .i64 0, .int .i64 0]) ∧ w = w' := by
  have HD := Lib.hid (digits_to hc hn i e (by omega) (by omega) hin (by rw [h1]; unfold Digit; omega))
  have hd0 := hin i (Nat.le_refl _) hie
  have HX := Lib.hid (next_any hc (i : Int) (by omega))
  rw [show (i : Int).toNat = i by omega, nx_in (by rw [len_data]; omega)] at HX
  have hb : ((s[i]'(by omega)).toNat : Int) = ch s.data.toList i := (ch_byte s i (by omega)).symm
  have hb1 : (((s[i]'(by omega)).toNat : Int) == 48) = false := by rw [hb]; simpa using h48
  generalize ch s.data.toList i = c at hd0 HX h48
  have b0 : (c == 45) = false := by unfold Digit at hd0; simp; omega
  have ee : ((e : Int) == (i : Int)) = false := by simp; omega
  clear hb hd0 h48
  have HE := Lib.hid (next_any hc ((e : Int)) (by omega))
  rw [show ((e : Int)).toNat = e by omega, nx_in (by rw [len_data]; omega), h1] at HE
  have HD2 := Lib.hid (digits_to hc hn (e + 1) f (by omega) (by omega) hin2 (by rw [h2]; unfold Digit; omega))
  rw [Int.natCast_add] at HD2
  have HF := Lib.hid (next_any hc ((f : Int)) (by omega))
  rw [show ((f : Int)).toNat = f by omega, nx_in (by rw [len_data]; omega), h2] at HF
  have HG := Lib.hid (next_any hc ((f : Int) + 1) (by omega))
  rw [show ((f : Int) + 1).toNat = f + 1 by omega, nx_in (by rw [len_data]; omega), h3] at HG
  have HD3 := Lib.hid (digits_to hc hn (f + 2) (f + 2) (Nat.le_refl _) (by omega) (fun j a b => by omega) h4)
  rw [show ((f + 2 : Nat) : Int) = (f : Int) + 1 + 1 by omega] at HD3
  have ef : ((f : Int) == (e : Int) + 1) = false := by simp; omega
  clear hin hin2 h1 h2 h3 h4
  go_enter Tryz.func54, Tryz.ntmps54
  go_wp2_with fail
  refine (HX.out).mono ?_
  rintro x w' ⟨rfl, rfl⟩
  go_wp2_with fail
  refine (HD.out).mono ?_
  rintro x w' ⟨rfl, rfl⟩
  go_wp2_with fail
  refine (HE.out).mono ?_
  rintro x w' ⟨rfl, rfl⟩
  go_wp2_with fail
  refine (HD2.out).mono ?_
  rintro x w' ⟨rfl, rfl⟩
  go_wp2_with fail
  refine (HF.out).mono ?_
  rintro x w' ⟨rfl, rfl⟩
  go_wp2_with fail
  refine (HG.out).mono ?_
  rintro x w' ⟨rfl, rfl⟩
  go_wp2_with fail
  refine (HD3.out).mono ?_
  rintro x w' ⟨rfl, rfl⟩
  go_wp2_with fail
  go_ret2
  exact ⟨rfl, rfl⟩

set_option maxHeartbeats 1600000 in
set_option maxRecDepth 100000 in
theorem numeral_one {w : World} {g : Nat} {s : ByteArray} (hc : w.cell? ⟨g, 0, none⟩ = some (.string s)) (hn : s.size ≤ 4611686018427387904) (i : Nat) (hi : i + 1 = s.size) (hd : Digit (ch s.data.toList i)) :
    Calls Tryz.prog 54 #[.pointer (some ⟨g, 0, none⟩), .int .i64 (i : Int)] w fun x w' => x = .returned (.tuple #[.int .i64 16, .int .i64 ((i : Int) + 1)]) ∧ w = w' := by
  have hend : ch s.data.toList (i + 1) = -1 := ch_end (by rw [len_data]; omega)
  have HD := Lib.hid (digits_to hc hn i (i + 1) (by omega) (by omega) (fun j a b => by rw [show j = i by omega]; exact hd) (by rw [hend]; unfold Digit; omega))
  rw [Int.natCast_add] at HD
  have HX := Lib.hid (next_any hc (i : Int) (by omega))
  rw [show (i : Int).toNat = i by omega, nx_in (by rw [len_data]; omega)] at HX
  have hbb : ((s[i]'(by omega)).toNat : Int) = ch s.data.toList i := (ch_byte s i (by omega)).symm
  obtain ⟨c, hcc⟩ : ∃ c, ch s.data.toList i = c := ⟨_, rfl⟩
  rw [hcc] at hd HX hbb
  have b0 : (c == 45) = false := by unfold Digit at hd; simp; omega
  have ee : ((i : Int) + 1 == (i : Int)) = false := by simp; omega
  have HE := Lib.hid (next_any hc ((i : Int) + 1) (by omega))
  rw [show ((i : Int) + 1).toNat = i + 1 by omega, nx_out (by rw [len_data]; omega)] at HE
  clear hcc hend hbb hd
  have hi2 : i < s.size := by omega
  clear hi
  have hz : (((s[i]'(by omega)).toNat : Int) == 48) = true ∨ (((s[i]'(by omega)).toNat : Int) == 48) = false := by cases h : (((s[i]'(by omega)).toNat : Int) == 48) <;> simp
  rcases hz with hz | hz
  all_goals
    go_enter Tryz.func54, Tryz.ntmps54
    go_wp2_with fail
    refine (HX.out).mono ?_
    rintro x w' ⟨rfl, rfl⟩
    go_wp2_with fail
    refine (HD.out).mono ?_
    rintro x w' ⟨rfl, rfl⟩
    go_wp2_with fail
    refine (HE.out).mono ?_
    rintro x w' ⟨rfl, rfl⟩
    go_wp2_with fail
    refine (HE.out).mono ?_
    rintro x w' ⟨rfl, rfl⟩
    go_wp2_with fail
    go_ret2
    exact ⟨rfl, rfl⟩

end Go.Proofs.YthmdgegaejanaaaGreatDoor
