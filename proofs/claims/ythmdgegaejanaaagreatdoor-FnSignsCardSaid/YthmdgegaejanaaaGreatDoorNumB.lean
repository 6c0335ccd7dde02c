/- NUMBERS (readNumber), over texts of ASCII, by the shape of what stands there. -/
import Derived.Test.YthmdgegaejanaaaGreatDoorNumA
import Derived.Test.YthmdgegaejanaaaGreatDoorTokRes
namespace Go.Proofs.YthmdgegaejanaaaGreatDoor
open Go.RowKit

set_option maxHeartbeats 3200000 in
set_option maxRecDepth 100000 in
theorem num_int {w : World} {p b n cap : Nat} {l : List UInt8} (hS : Src w p b n cap l) (hn : n ≤ 4611686018427387904) (i e : Nat) (hie : i < e) (hen : e ≤ n) (hin : ∀ j, i ≤ j → j < e → Digit (ch l j)) (c : Int) (hc : ch l i = c) (h48 : c ≠ 48)
    (d : Int) (hd : ch l e = d) (d1 : d ≠ 46) (d2 : d ≠ 69) (d3 : d ≠ 101) (d4 : ¬ Digit d) :
    Calls Tryz.prog 30 #[.pointer (some ⟨p, 0, none⟩), .int .i64 (i : Int), .int .i32 c, .int .i64 1] w fun x w' => Res 16 i e (sub l i e) false x ∧ Below w.heap.size w w' := by
  obtain ⟨c1, c2, c3⟩ := hS.cells
  have hcap := hS.cap
  have hb1 := fun o => (Below.refl _ w).alloc (Nat.le_refl _) o
  have HB := Lib.hid hb1
  have hdig := hin i (Nat.le_refl _) hie
  rw [hc] at hdig
  obtain ⟨k0, k1⟩ := hdig
  have HD := Lib.hid (fun o => digits_ok (hS.below (hb1 o)) hn i e hie hen hin (by rw [hd]; exact d4) c hc)
  have HR := Lib.hid (fun o => runeAt_any (hS.body.below (hb1 o)) cap (e : Int) (by omega))
  rw [Int.toNat_natCast, hd] at HR
  generalize cw l e = m at HR
  have b0 : (c == 45) = false := by simp; omega
  have b1 : (c == 48) = false := by simpa using h48
  have b2 : (d == 46) = false := by simpa using d1
  have b3 : (d == 69) = false := by simpa using d2
  have b4 : (d == 101) = false := by simpa using d3
  have hsl := fun W => run_cut W b n cap i e hie (by omega)
  have hcv := fun o c => run_string (hS.body.below (hb1 o)) i e c (by omega) hen
  clear c3 hb1 hin h48 d1 d2 d3 d4 hc hd
  go_enter Tryz.func30, Tryz.ntmps30
  go_wp2_with fail
  refine (HD.out _).mono ?_
  rintro x w' ⟨rfl, rfl⟩
  go_wp2_with fail
  refine (HR.out _).mono ?_
  rintro x w' ⟨rfl, rfl⟩
  go_wp2_with (go_at_call 26; refine (makeToken_any _ _ _ _ _).mono ?_; rintro x w' ⟨rfl, rfl⟩)
  go_returns
  exact ⟨rfl, by go_grown⟩

set_option maxHeartbeats 3200000 in
set_option maxRecDepth 100000 in
theorem num_zero {w : World} {p b n cap : Nat} {l : List UInt8} (hS : Src w p b n cap l) (hn : n ≤ 4611686018427387904) (i : Nat) (hin : i < n) (d : Int) (hd : ch l (i + 1) = d) (d1 : d ≠ 46) (d2 : d ≠ 69) (d3 : d ≠ 101) (d4 : ¬ Digit d) :
    Calls Tryz.prog 30 #[.pointer (some ⟨p, 0, none⟩), .int .i64 (i : Int), .int .i32 48, .int .i64 1] w fun x w' => Res 16 i (i + 1) (sub l i (i + 1)) false x ∧ Below w.heap.size w w' := by
  obtain ⟨c1, c2, c3⟩ := hS.cells
  have hcap := hS.cap
  have hb1 := fun o => (Below.refl _ w).alloc (Nat.le_refl _) o
  have HB := Lib.hid hb1
  have HR := Lib.hid (fun o => runeAt_any (hS.body.below (hb1 o)) cap ((i : Int) + 1) (by omega))
  rw [show ((i : Int) + 1).toNat = i + 1 by omega] at HR
  rw [hd] at HR
  generalize cw l (i + 1) = m at HR
  have b2 : (d == 46) = false := by simpa using d1
  have b3 : (d == 69) = false := by simpa using d2
  have b4 : (d == 101) = false := by simpa using d3
  have hd4 := not_digit d4
  have hsl : ∀ W, (Instr.slice 32 (.slice (some ⟨b, 0, none⟩) n cap) (some (.int .i64 (i : Int))) (some (.int .i64 ((i : Int) + 1))) none).run Tryz.prog W = .ok (.slice (some ⟨b, i, none⟩) 1 (cap - i)) W := fun W => by
    have := run_cut W b n cap i (i + 1) (by omega) (by omega)
    rwa [show i + 1 - i = 1 by omega] at this
  have hcv : ∀ o c, (convert 32 9 (.slice (some ⟨b, i, none⟩) 1 c)).run Tryz.prog (w.alloc o) = .ok (.string (sub l i (i + 1))) (w.alloc o) := fun o c => by
    have := run_string (hS.body.below (hb1 o)) i (i + 1) c (by omega) (by omega)
    rwa [show i + 1 - i = 1 by omega] at this
  clear c3 hb1 d1 d2 d3 d4 hd
  rcases hd4 with hd4 | hd4
  all_goals
    go_enter Tryz.func30, Tryz.ntmps30
    go_wp2_with fail
    refine (HR.out _).mono ?_
    rintro x w' ⟨rfl, rfl⟩
    go_wp2_with (go_at_call 26; refine (makeToken_any _ _ _ _ _).mono ?_; rintro x w' ⟨rfl, rfl⟩)
    go_returns
    exact ⟨rfl, by go_grown⟩

set_option maxHeartbeats 3200000 in
set_option maxRecDepth 100000 in
theorem num_nought {w : World} {p b n cap : Nat} {l : List UInt8} (hS : Src w p b n cap l) (hn : n ≤ 4611686018427387904) (he : NoEnds l) (i : Nat) (hd : Digit (ch l (i + 1))) :
    Calls Tryz.prog 30 #[.pointer (some ⟨p, 0, none⟩), .int .i64 (i : Int), .int .i32 48, .int .i64 1] w fun x w' => IsErr x ∧ Below w.heap.size w w' := by
  obtain ⟨c1, c2, c3⟩ := hS.cells
  have hcap := hS.cap
  have hb1 := fun o => (Below.refl _ w).alloc (Nat.le_refl _) o
  have HB := Lib.hid hb1
  have h1 := ch_lt (l := l) (i := i + 1) (by unfold Digit at hd; omega)
  rw [hS.body.len] at h1
  have HR := Lib.hid (fun o => runeAt_in (hS.body.below (hb1 o)) cap ((i : Int) + 1) (by omega) (by omega) (ch l (i + 1)) (by rw [show ((i : Int) + 1).toNat = i + 1 by omega]))
  generalize ch l (i + 1) = d at hd HR
  obtain ⟨k0, k1⟩ := hd
  have HE := Lib.hid (fun o d => syntaxError_any (hS.below (hb1 o)) he hn ((i : Int) + 1) (by omega) (by omega) d)
  clear c3 hb1
  go_enter Tryz.func30, Tryz.ntmps30
  go_wp2_with fail
  refine (HR.out _).mono ?_
  rintro x w' ⟨rfl, rfl⟩
  go_wp2_with fail
  refine (HE.out _ _).mono ?_
  rintro x W2 ⟨⟨aerr, rfl⟩, hb2⟩
  obtain ⟨a0, a1, a2, a3, af, alt⟩ := box4 hb2
  have HB2 := Lib.hid hb2
  clear hb2
  have s0 : ∀ v, (W2.setCell ⟨w.heap.size, 0, none⟩ v).cell? ⟨w.heap.size, 0, none⟩ = some v := fun v => World.cell?_setCell_same _ _ _ a0
  go_wp2_with fail
  refine bodyPost_ret (v := .tuple #[.agg #[.int .i64 0, .int .i64 0, .int .i64 0, .string ⟨#[]⟩], .iface 62 (.pointer (some aerr))]) (by simp [results, Tryz.results30, go_sem, s0, a1, a2, a3]) rfl ⟨⟨_, rfl⟩, ?_⟩
  have hb2 := HB2.out
  exact (((((HB.out _).trans (hb2.mono (by simp))).setCell (Nat.le_refl _) _).setCell (Nat.le_refl _) _).setCell (Nat.le_refl _) _).setCell (Nat.le_refl _) _

set_option maxHeartbeats 3200000 in
set_option maxRecDepth 100000 in
theorem num_minus_nought {w : World} {p b n cap : Nat} {l : List UInt8} (hS : Src w p b n cap l) (hn : n ≤ 4611686018427387904) (he : NoEnds l) (i : Nat) (h1 : ch l (i + 1) = 48) (hd : Digit (ch l (i + 2))) :
    Calls Tryz.prog 30 #[.pointer (some ⟨p, 0, none⟩), .int .i64 (i : Int), .int .i32 45, .int .i64 1] w fun x w' => IsErr x ∧ Below w.heap.size w w' := by
  obtain ⟨c1, c2, c3⟩ := hS.cells
  have hcap := hS.cap
  have hb1 := fun o => (Below.refl _ w).alloc (Nat.le_refl _) o
  have HB := Lib.hid hb1
  have h2 := ch_lt (l := l) (i := i + 2) (by unfold Digit at hd; omega)
  rw [hS.body.len] at h2
  have HR1 := Lib.hid (fun o => runeAt_in (hS.body.below (hb1 o)) cap ((i : Int) + 1) (by omega) (by omega) 48 (by rw [show ((i : Int) + 1).toNat = i + 1 by omega]; exact h1))
  have HR2 := Lib.hid (fun o => runeAt_in (hS.body.below (hb1 o)) cap ((i : Int) + 1 + 1) (by omega) (by omega) (ch l (i + 2)) (by rw [show ((i : Int) + 1 + 1).toNat = i + 2 by omega]))
  generalize ch l (i + 2) = d at hd HR2
  obtain ⟨k0, k1⟩ := hd
  have HE := Lib.hid (fun o d => syntaxError_any (hS.below (hb1 o)) he hn ((i : Int) + 1 + 1) (by omega) (by omega) d)
  clear c3 hb1 h1
  go_enter Tryz.func30, Tryz.ntmps30
  go_wp2_with fail
  refine (HR1.out _).mono ?_
  rintro x w' ⟨rfl, rfl⟩
  go_wp2_with fail
  refine (HR2.out _).mono ?_
  rintro x w' ⟨rfl, rfl⟩
  go_wp2_with fail
  refine (HE.out _ _).mono ?_
  rintro x W2 ⟨⟨aerr, rfl⟩, hb2⟩
  obtain ⟨a0, a1, a2, a3, af, alt⟩ := box4 hb2
  have HB2 := Lib.hid hb2
  clear hb2
  have s0 : ∀ v, (W2.setCell ⟨w.heap.size, 0, none⟩ v).cell? ⟨w.heap.size, 0, none⟩ = some v := fun v => World.cell?_setCell_same _ _ _ a0
  go_wp2_with fail
  refine bodyPost_ret (v := .tuple #[.agg #[.int .i64 0, .int .i64 0, .int .i64 0, .string ⟨#[]⟩], .iface 62 (.pointer (some aerr))]) (by simp [results, Tryz.results30, go_sem, s0, a1, a2, a3]) rfl ⟨⟨_, rfl⟩, ?_⟩
  have hb2 := HB2.out
  exact (((((HB.out _).trans (hb2.mono (by simp))).setCell (Nat.le_refl _) _).setCell (Nat.le_refl _) _).setCell (Nat.le_refl _) _).setCell (Nat.le_refl _) _

set_option maxHeartbeats 3200000 in
set_option maxRecDepth 100000 in
theorem num_minus {w : World} {p b n cap : Nat} {l : List UInt8} (hS : Src w p b n cap l) (hn : n ≤ 4611686018427387904) (he : NoEnds l) (i : Nat) (hi : i < n) (h1 : ¬ Digit (ch l (i + 1))) :
    Calls Tryz.prog 30 #[.pointer (some ⟨p, 0, none⟩), .int .i64 (i : Int), .int .i32 45, .int .i64 1] w fun x w' => IsErr x ∧ Below w.heap.size w w' := by
  obtain ⟨c1, c2, c3⟩ := hS.cells
  have hcap := hS.cap
  have hb1 := fun o => (Below.refl _ w).alloc (Nat.le_refl _) o
  have HB := Lib.hid hb1
  have HR1 := Lib.hid (fun o => runeAt_any (hS.body.below (hb1 o)) cap ((i : Int) + 1) (by omega))
  rw [show ((i : Int) + 1).toNat = i + 1 by omega] at HR1
  generalize ch l (i + 1) = d at h1 HR1
  generalize cw l (i + 1) = m at HR1
  have b1 : (d == 48) = false := by have := not_digit h1; simp; omega
  have HE := Lib.hid (fun o => digits_err (hS.below (hb1 o)) he hn (i + 1) (by omega) d m h1)
  rw [Int.natCast_add] at HE
  clear c3 hb1 h1
  go_enter Tryz.func30, Tryz.ntmps30
  go_wp2_with fail
  refine (HR1.out _).mono ?_
  rintro x w' ⟨rfl, rfl⟩
  go_wp2_with fail
  refine (HE.out _).mono ?_
  rintro x W2 ⟨⟨aerr, rfl⟩, hb2⟩
  obtain ⟨a0, a1, a2, a3, af, alt⟩ := box4 hb2
  have HB2 := Lib.hid hb2
  clear hb2
  have s0 : ∀ v, (W2.setCell ⟨w.heap.size, 0, none⟩ v).cell? ⟨w.heap.size, 0, none⟩ = some v := fun v => World.cell?_setCell_same _ _ _ a0
  go_wp2_with fail
  refine bodyPost_ret (v := .tuple #[.agg #[.int .i64 0, .int .i64 0, .int .i64 0, .string ⟨#[]⟩], .iface 62 (.pointer (some aerr))]) (by simp [results, Tryz.results30, go_sem, s0, a1, a2, a3]) rfl ⟨⟨_, rfl⟩, ?_⟩
  have hb2 := HB2.out
  exact (((((HB.out _).trans (hb2.mono (by simp))).setCell (Nat.le_refl _) _).setCell (Nat.le_refl _) _).setCell (Nat.le_refl _) _).setCell (Nat.le_refl _) _

set_option maxHeartbeats 3200000 in
set_option maxRecDepth 100000 in
theorem num_point {w : World} {p b n cap : Nat} {l : List UInt8} (hS : Src w p b n cap l) (hn : n ≤ 4611686018427387904) (he : NoEnds l) (i e : Nat) (hie : i < e) (hin : ∀ j, i ≤ j → j < e → Digit (ch l j)) (c : Int) (hc : ch l i = c) (h48 : c ≠ 48)
    (h1 : ch l e = 46) (h2 : ¬ Digit (ch l (e + 1))) :
    Calls Tryz.prog 30 #[.pointer (some ⟨p, 0, none⟩), .int .i64 (i : Int), .int .i32 c, .int .i64 1] w fun x w' => IsErr x ∧ Below w.heap.size w w' := by
  obtain ⟨c1, c2, c3⟩ := hS.cells
  have hcap := hS.cap
  have hb1 := fun o => (Below.refl _ w).alloc (Nat.le_refl _) o
  have HB := Lib.hid hb1
  have hen := ch_lt (l := l) (i := e) (by omega)
  rw [hS.body.len] at hen
  have hdig := hin i (Nat.le_refl _) hie
  rw [hc] at hdig
  obtain ⟨k0, k1⟩ := hdig
  have HD := Lib.hid (fun o => digits_ok (hS.below (hb1 o)) hn i e hie (by omega) hin (by rw [h1]; unfold Digit; omega) c hc)
  have HR := Lib.hid (fun o => runeAt_in (hS.body.below (hb1 o)) cap ((e : Int)) (by omega) (by omega) 46 (by rw [show ((e : Int)).toNat = e by omega]; exact h1))
  have HR1 := Lib.hid (fun o => runeAt_any (hS.body.below (hb1 o)) cap ((e : Int) + 1) (by omega))
  rw [show ((e : Int) + 1).toNat = e + 1 by omega] at HR1
  generalize ch l (e + 1) = d at h2 HR1
  generalize cw l (e + 1) = m at HR1
  have b0 : (c == 45) = false := by simp; omega
  have b1 : (c == 48) = false := by simpa using h48
  have HE := Lib.hid (fun o => digits_err (hS.below (hb1 o)) he hn (e + 1) (by omega) d m h2)
  rw [Int.natCast_add] at HE
  clear c3 hb1 hin h48 hc h1 h2
  go_enter Tryz.func30, Tryz.ntmps30
  go_wp2_with fail
  refine (HD.out _).mono ?_
  rintro x w' ⟨rfl, rfl⟩
  go_wp2_with fail
  refine (HR.out _).mono ?_
  rintro x w' ⟨rfl, rfl⟩
  go_wp2_with fail
  refine (HR1.out _).mono ?_
  rintro x w' ⟨rfl, rfl⟩
  go_wp2_with fail
  refine (HE.out _).mono ?_
  rintro x W2 ⟨⟨aerr, rfl⟩, hb2⟩
  obtain ⟨a0, a1, a2, a3, af, alt⟩ := box4 hb2
  have HB2 := Lib.hid hb2
  clear hb2
  have s0 : ∀ v, (W2.setCell ⟨w.heap.size, 0, none⟩ v).cell? ⟨w.heap.size, 0, none⟩ = some v := fun v => World.cell?_setCell_same _ _ _ a0
  go_wp2_with fail
  refine bodyPost_ret (v := .tuple #[.agg #[.int .i64 0, .int .i64 0, .int .i64 0, .string ⟨#[]⟩], .iface 62 (.pointer (some aerr))]) (by simp [results, Tryz.results30, go_sem, s0, a1, a2, a3]) rfl ⟨⟨_, rfl⟩, ?_⟩
  have hb2 := HB2.out
  exact (((((HB.out _).trans (hb2.mono (by simp))).setCell (Nat.le_refl _) _).setCell (Nat.le_refl _) _).setCell (Nat.le_refl _) _).setCell (Nat.le_refl _) _

set_option maxHeartbeats 3200000 in
set_option maxRecDepth 100000 in
theorem num_exp {w : World} {p b n cap : Nat} {l : List UInt8} (hS : Src w p b n cap l) (hn : n ≤ 4611686018427387904) (he : NoEnds l) (i e : Nat) (hie : i < e) (hin : ∀ j, i ≤ j → j < e → Digit (ch l j)) (c : Int) (hc : ch l i = c) (h48 : c ≠ 48)
    (h1 : ch l e = 101) (h2 : ¬ Digit (ch l (e + 1))) (h3 : ch l (e + 1) ≠ 43) (h4 : ch l (e + 1) ≠ 45) :
    Calls Tryz.prog 30 #[.pointer (some ⟨p, 0, none⟩), .int .i64 (i : Int), .int .i32 c, .int .i64 1] w fun x w' => IsErr x ∧ Below w.heap.size w w' := by
  obtain ⟨c1, c2, c3⟩ := hS.cells
  have hcap := hS.cap
  have hb1 := fun o => (Below.refl _ w).alloc (Nat.le_refl _) o
  have HB := Lib.hid hb1
  have hen := ch_lt (l := l) (i := e) (by omega)
  rw [hS.body.len] at hen
  have hdig := hin i (Nat.le_refl _) hie
  rw [hc] at hdig
  obtain ⟨k0, k1⟩ := hdig
  have HD := Lib.hid (fun o => digits_ok (hS.below (hb1 o)) hn i e hie (by omega) hin (by rw [h1]; unfold Digit; omega) c hc)
  have HR := Lib.hid (fun o => runeAt_in (hS.body.below (hb1 o)) cap ((e : Int)) (by omega) (by omega) 101 (by rw [show ((e : Int)).toNat = e by omega]; exact h1))
  have HR1 := Lib.hid (fun o => runeAt_any (hS.body.below (hb1 o)) cap ((e : Int) + 1) (by omega))
  rw [show ((e : Int) + 1).toNat = e + 1 by omega] at HR1
  generalize ch l (e + 1) = d at h2 h3 h4 HR1
  generalize cw l (e + 1) = m at HR1
  have b0 : (c == 45) = false := by simp; omega
  have b1 : (c == 48) = false := by simpa using h48
  have b2 : (d == 43) = false := by simpa using h3
  have b3 : (d == 45) = false := by simpa using h4
  have HE := Lib.hid (fun o => digits_err (hS.below (hb1 o)) he hn (e + 1) (by omega) d m h2)
  rw [Int.natCast_add] at HE
  clear c3 hb1 hin h48 hc h1 h2 h3 h4
  go_enter Tryz.func30, Tryz.ntmps30
  go_wp2_with fail
  refine (HD.out _).mono ?_
  rintro x w' ⟨rfl, rfl⟩
  go_wp2_with fail
  refine (HR.out _).mono ?_
  rintro x w' ⟨rfl, rfl⟩
  go_wp2_with fail
  refine (HR1.out _).mono ?_
  rintro x w' ⟨rfl, rfl⟩
  go_wp2_with fail
  refine (HE.out _).mono ?_
  rintro x W2 ⟨⟨aerr, rfl⟩, hb2⟩
  obtain ⟨a0, a1, a2, a3, af, alt⟩ := box4 hb2
  have HB2 := Lib.hid hb2
  clear hb2
  have s0 : ∀ v, (W2.setCell ⟨w.heap.size, 0, none⟩ v).cell? ⟨w.heap.size, 0, none⟩ = some v := fun v => World.cell?_setCell_same _ _ _ a0
  go_wp2_with fail
  refine bodyPost_ret (v := .tuple #[.agg #[.int .i64 0, .int .i64 0, .int .i64 0, .string ⟨#[]⟩], .iface 62 (.pointer (some aerr))]) (by simp [results, Tryz.results30, go_sem, s0, a1, a2, a3]) rfl ⟨⟨_, rfl⟩, ?_⟩
  have hb2 := HB2.out
  exact (((((HB.out _).trans (hb2.mono (by simp))).setCell (Nat.le_refl _) _).setCell (Nat.le_refl _) _).setCell (Nat.le_refl _) _).setCell (Nat.le_refl _) _

set_option maxHeartbeats 3200000 in
set_option maxRecDepth 100000 in
theorem num_exp_minus {w : World} {p b n cap : Nat} {l : List UInt8} (hS : Src w p b n cap l) (hn : n ≤ 4611686018427387904) (he : NoEnds l) (i e : Nat) (hie : i < e) (hin : ∀ j, i ≤ j → j < e → Digit (ch l j)) (c : Int) (hc : ch l i = c) (h48 : c ≠ 48)
    (h1 : ch l e = 69) (h2 : ch l (e + 1) = 45) (h3 : ¬ Digit (ch l (e + 2))) :
    Calls Tryz.prog 30 #[.pointer (some ⟨p, 0, none⟩), .int .i64 (i : Int), .int .i32 c, .int .i64 1] w fun x w' => IsErr x ∧ Below w.heap.size w w' := by
  obtain ⟨c1, c2, c3⟩ := hS.cells
  have hcap := hS.cap
  have hb1 := fun o => (Below.refl _ w).alloc (Nat.le_refl _) o
  have HB := Lib.hid hb1
  have hen := ch_lt (l := l) (i := e + 1) (by omega)
  rw [hS.body.len] at hen
  have hdig := hin i (Nat.le_refl _) hie
  rw [hc] at hdig
  obtain ⟨k0, k1⟩ := hdig
  have HD := Lib.hid (fun o => digits_ok (hS.below (hb1 o)) hn i e hie (by omega) hin (by rw [h1]; unfold Digit; omega) c hc)
  have HR := Lib.hid (fun o => runeAt_in (hS.body.below (hb1 o)) cap ((e : Int)) (by omega) (by omega) 69 (by rw [show ((e : Int)).toNat = e by omega]; exact h1))
  have HR1 := Lib.hid (fun o => runeAt_in (hS.body.below (hb1 o)) cap ((e : Int) + 1) (by omega) (by omega) 45 (by rw [show ((e : Int) + 1).toNat = e + 1 by omega]; exact h2))
  have HR2 := Lib.hid (fun o => runeAt_any (hS.body.below (hb1 o)) cap ((e : Int) + 1 + 1) (by omega))
  rw [show ((e : Int) + 1 + 1).toNat = e + 2 by omega] at HR2
  generalize ch l (e + 2) = d at h3 HR2
  generalize cw l (e + 2) = m at HR2
  have b0 : (c == 45) = false := by simp; omega
  have b1 : (c == 48) = false := by simpa using h48
  have HE := Lib.hid (fun o => digits_err (hS.below (hb1 o)) he hn (e + 1 + 1) (by omega) d m h3)
  rw [Int.natCast_add, Int.natCast_add] at HE
  clear c3 hb1 hin h48 hc h1 h2 h3
  go_enter Tryz.func30, Tryz.ntmps30
  go_wp2_with fail
  refine (HD.out _).mono ?_
  rintro x w' ⟨rfl, rfl⟩
  go_wp2_with fail
  refine (HR.out _).mono ?_
  rintro x w' ⟨rfl, rfl⟩
  go_wp2_with fail
  refine (HR1.out _).mono ?_
  rintro x w' ⟨rfl, rfl⟩
  go_wp2_with fail
  refine (HR2.out _).mono ?_
  rintro x w' ⟨rfl, rfl⟩
  go_wp2_with fail
  refine (HE.out _).mono ?_
  rintro x W2 ⟨⟨aerr, rfl⟩, hb2⟩
  obtain ⟨a0, a1, a2, a3, af, alt⟩ := box4 hb2
  have HB2 := Lib.hid hb2
  clear hb2
  have s0 : ∀ v, (W2.setCell ⟨w.heap.size, 0, none⟩ v).cell? ⟨w.heap.size, 0, none⟩ = some v := fun v => World.cell?_setCell_same _ _ _ a0
  go_wp2_with fail
  refine bodyPost_ret (v := .tuple #[.agg #[.int .i64 0, .int .i64 0, .int .i64 0, .string ⟨#[]⟩], .iface 62 (.pointer (some aerr))]) (by simp [results, Tryz.results30, go_sem, s0, a1, a2, a3]) rfl ⟨⟨_, rfl⟩, ?_⟩
  have hb2 := HB2.out
  exact (((((HB.out _).trans (hb2.mono (by simp))).setCell (Nat.le_refl _) _).setCell (Nat.le_refl _) _).setCell (Nat.le_refl _) _).setCell (Nat.le_refl _) _

set_option maxHeartbeats 3200000 in
set_option maxRecDepth 100000 in
theorem num_frac_plus {w : World} {p b n cap : Nat} {l : List UInt8} (hS : Src w p b n cap l) (hn : n ≤ 4611686018427387904) (he : NoEnds l) (i e f : Nat) (hie : i < e) (hef : e + 1 < f) (hin : ∀ j, i ≤ j → j < e → Digit (ch l j)) (c : Int) (hc : ch l i = c) (h48 : c ≠ 48)
    (h1 : ch l e = 46) (hin2 : ∀ j, e + 1 ≤ j → j < f → Digit (ch l j)) (h2 : ch l f = 101) (h3 : ch l (f + 1) = 43) (h4 : ¬ Digit (ch l (f + 2))) :
    Calls Tryz.prog 30 #[.pointer (some ⟨p, 0, none⟩), .int .i64 (i : Int), .int .i32 c, .int .i64 1] w fun x w' => IsErr x ∧ Below w.heap.size w w' := by
  obtain ⟨c1, c2, c3⟩ := hS.cells
  have hcap := hS.cap
  have hb1 := fun o => (Below.refl _ w).alloc (Nat.le_refl _) o
  have HB := Lib.hid hb1
  have hfn := ch_lt (l := l) (i := f + 1) (by omega)
  rw [hS.body.len] at hfn
  have hdig := hin i (Nat.le_refl _) hie
  rw [hc] at hdig
  obtain ⟨k0, k1⟩ := hdig
  have HD := Lib.hid (fun o => digits_ok (hS.below (hb1 o)) hn i e hie (by omega) hin (by rw [h1]; unfold Digit; omega) c hc)
  have HD2 := Lib.hid (fun o => digits_ok (hS.below (hb1 o)) hn (e + 1) f hef (by omega) hin2 (by rw [h2]; unfold Digit; omega) _ rfl)
  rw [Int.natCast_add] at HD2
  have HR := Lib.hid (fun o => runeAt_in (hS.body.below (hb1 o)) cap ((e : Int)) (by omega) (by omega) 46 (by rw [show ((e : Int)).toNat = e by omega]; exact h1))
  have HR1 := Lib.hid (fun o => runeAt_in (hS.body.below (hb1 o)) cap ((e : Int) + 1) (by omega) (by omega) (ch l (e + 1)) (by rw [show ((e : Int) + 1).toNat = e + 1 by omega]))
  have HR2 := Lib.hid (fun o => runeAt_in (hS.body.below (hb1 o)) cap ((f : Int)) (by omega) (by omega) 101 (by rw [show ((f : Int)).toNat = f by omega]; exact h2))
  have HR3 := Lib.hid (fun o => runeAt_in (hS.body.below (hb1 o)) cap ((f : Int) + 1) (by omega) (by omega) 43 (by rw [show ((f : Int) + 1).toNat = f + 1 by omega]; exact h3))
  have HR4 := Lib.hid (fun o => runeAt_any (hS.body.below (hb1 o)) cap ((f : Int) + 1 + 1) (by omega))
  rw [show ((f : Int) + 1 + 1).toNat = f + 2 by omega] at HR4
  generalize ch l (f + 2) = d at h4 HR4
  generalize cw l (f + 2) = m at HR4
  generalize ch l (e + 1) = d2 at HR1 HD2
  have b0 : (c == 45) = false := by simp; omega
  have b1 : (c == 48) = false := by simpa using h48
  have HE := Lib.hid (fun o => digits_err (hS.below (hb1 o)) he hn (f + 1 + 1) (by omega) d m h4)
  rw [Int.natCast_add, Int.natCast_add] at HE
  clear c3 hb1 hin hin2 h48 hc h1 h2 h3 h4
  go_enter Tryz.func30, Tryz.ntmps30
  go_wp2_with fail
  refine (HD.out _).mono ?_
  rintro x w' ⟨rfl, rfl⟩
  go_wp2_with fail
  refine (HR.out _).mono ?_
  rintro x w' ⟨rfl, rfl⟩
  go_wp2_with fail
  refine (HR1.out _).mono ?_
  rintro x w' ⟨rfl, rfl⟩
  go_wp2_with fail
  refine (HD2.out _).mono ?_
  rintro x w' ⟨rfl, rfl⟩
  go_wp2_with fail
  refine (HR2.out _).mono ?_
  rintro x w' ⟨rfl, rfl⟩
  go_wp2_with fail
  refine (HR3.out _).mono ?_
  rintro x w' ⟨rfl, rfl⟩
  go_wp2_with fail
  refine (HR4.out _).mono ?_
  rintro x w' ⟨rfl, rfl⟩
  go_wp2_with fail
  refine (HE.out _).mono ?_
  rintro x W2 ⟨⟨aerr, rfl⟩, hb2⟩
  obtain ⟨a0, a1, a2, a3, af, alt⟩ := box4 hb2
  have HB2 := Lib.hid hb2
  clear hb2
  have s0 : ∀ v, (W2.setCell ⟨w.heap.size, 0, none⟩ v).cell? ⟨w.heap.size, 0, none⟩ = some v := fun v => World.cell?_setCell_same _ _ _ a0
  go_wp2_with fail
  refine bodyPost_ret (v := .tuple #[.agg #[.int .i64 0, .int .i64 0, .int .i64 0, .string ⟨#[]⟩], .iface 62 (.pointer (some aerr))]) (by simp [results, Tryz.results30, go_sem, s0, a1, a2, a3]) rfl ⟨⟨_, rfl⟩, ?_⟩
  have hb2 := HB2.out
  exact (((((HB.out _).trans (hb2.mono (by simp))).setCell (Nat.le_refl _) _).setCell (Nat.le_refl _) _).setCell (Nat.le_refl _) _).setCell (Nat.le_refl _) _

end Go.Proofs.YthmdgegaejanaaaGreatDoor
