/- ONE TOKEN (readToken): a name, by its first letter: 97 to 109. -/
import Derived.Test.YtannihddhebcpaaGreatDoorTokA
namespace Go.Proofs.YtannihddhebcpaaGreatDoor
open Go.RowKit

set_option maxHeartbeats 3200000 in
set_option maxRecDepth 100000 in
theorem tok_c97 {w : World} {p b n cap : Nat} {l : List UInt8} (hS : Src w p b n cap l) (hn : n ≤ 4611686018427387904) (i q e : Nat) (hi : i ≤ n) (hs : Skips l i q)
    (hqe : q < e) (hen : e ≤ n) (hin : ∀ j, q < j → j < e → NameChar (ch l j)) (hout : ¬ NameChar (ch l e)) (hc : ch l q = 97) :
    Calls Tryz.prog 133 #[.pointer (some ⟨p, 0, none⟩), .int .i64 (i : Int)] w fun x w' =>
      x = .returned (.tuple #[.agg #[.int .i64 15, .int .i64 q, .int .i64 e, .string (sub l q e)], .nilIface]) ∧ Below w.heap.size w w' := by
  obtain ⟨c1, c2, c3⟩ := hS.cells
  have hb1 := fun o => (Below.refl _ w).alloc (Nat.le_refl _) o
  have HS := Lib.hid (fun o => skip_any (hS.body.below (hb1 o)) cap i q hn hi hs)
  have HN := Lib.hid (fun o => name_any (hS.below (hb1 o)) q e hn hqe hen hin hout)
  have HR := Lib.hid (fun o => runeAt_in (hS.body.below (hb1 o)) cap (q : Int) (by omega) (by omega) 97 (by rw [Int.toNat_natCast]; exact hc))
  have HB := Lib.hid hb1
  clear c3 hs hin hout hb1 hc
  go_enter Tryz.func133, Tryz.ntmps133
  go_wp2_with (first | (go_at_call 153; refine (HS.out _).mono ?_; rintro x w' ⟨rfl, rfl⟩) | (go_at_call 155; refine (HR.out _).mono ?_; rintro x w' ⟨rfl, rfl⟩))
  refine (HN.out _).mono ?_
  rintro x W2 ⟨rfl, hb2⟩
  obtain ⟨a0, a1, a2, a3, af, alt⟩ := box4 hb2
  have HB2 := Lib.hid hb2
  clear hb2
  have s0 : ∀ v, (W2.setCell ⟨w.heap.size, 0, none⟩ v).cell? ⟨w.heap.size, 0, none⟩ = some v := fun v => World.cell?_setCell_same _ _ _ a0
  go_wp2_with fail
  refine bodyPost_ret (v := .tuple #[.agg #[.int .i64 15, .int .i64 q, .int .i64 e, .string (sub l q e)], .nilIface]) (by simp [results, Tryz.results133, go_sem, s0, a1, a2, a3]) rfl ⟨rfl, ?_⟩
  have hb2 := HB2.out
  exact (((((HB.out _).trans (hb2.mono (by simp))).setCell (Nat.le_refl _) _).setCell (Nat.le_refl _) _).setCell (Nat.le_refl _) _).setCell (Nat.le_refl _) _

set_option maxHeartbeats 3200000 in
set_option maxRecDepth 100000 in
theorem tok_c98 {w : World} {p b n cap : Nat} {l : List UInt8} (hS : Src w p b n cap l) (hn : n ≤ 4611686018427387904) (i q e : Nat) (hi : i ≤ n) (hs : Skips l i q)
    (hqe : q < e) (hen : e ≤ n) (hin : ∀ j, q < j → j < e → NameChar (ch l j)) (hout : ¬ NameChar (ch l e)) (hc : ch l q = 98) :
    Calls Tryz.prog 133 #[.pointer (some ⟨p, 0, none⟩), .int .i64 (i : Int)] w fun x w' =>
      x = .returned (.tuple #[.agg #[.int .i64 15, .int .i64 q, .int .i64 e, .string (sub l q e)], .nilIface]) ∧ Below w.heap.size w w' := by
  obtain ⟨c1, c2, c3⟩ := hS.cells
  have hb1 := fun o => (Below.refl _ w).alloc (Nat.le_refl _) o
  have HS := Lib.hid (fun o => skip_any (hS.body.below (hb1 o)) cap i q hn hi hs)
  have HN := Lib.hid (fun o => name_any (hS.below (hb1 o)) q e hn hqe hen hin hout)
  have HR := Lib.hid (fun o => runeAt_in (hS.body.below (hb1 o)) cap (q : Int) (by omega) (by omega) 98 (by rw [Int.toNat_natCast]; exact hc))
  have HB := Lib.hid hb1
  clear c3 hs hin hout hb1 hc
  go_enter Tryz.func133, Tryz.ntmps133
  go_wp2_with (first | (go_at_call 153; refine (HS.out _).mono ?_; rintro x w' ⟨rfl, rfl⟩) | (go_at_call 155; refine (HR.out _).mono ?_; rintro x w' ⟨rfl, rfl⟩))
  refine (HN.out _).mono ?_
  rintro x W2 ⟨rfl, hb2⟩
  obtain ⟨a0, a1, a2, a3, af, alt⟩ := box4 hb2
  have HB2 := Lib.hid hb2
  clear hb2
  have s0 : ∀ v, (W2.setCell ⟨w.heap.size, 0, none⟩ v).cell? ⟨w.heap.size, 0, none⟩ = some v := fun v => World.cell?_setCell_same _ _ _ a0
  go_wp2_with fail
  refine bodyPost_ret (v := .tuple #[.agg #[.int .i64 15, .int .i64 q, .int .i64 e, .string (sub l q e)], .nilIface]) (by simp [results, Tryz.results133, go_sem, s0, a1, a2, a3]) rfl ⟨rfl, ?_⟩
  have hb2 := HB2.out
  exact (((((HB.out _).trans (hb2.mono (by simp))).setCell (Nat.le_refl _) _).setCell (Nat.le_refl _) _).setCell (Nat.le_refl _) _).setCell (Nat.le_refl _) _

set_option maxHeartbeats 3200000 in
set_option maxRecDepth 100000 in
theorem tok_c99 {w : World} {p b n cap : Nat} {l : List UInt8} (hS : Src w p b n cap l) (hn : n ≤ 4611686018427387904) (i q e : Nat) (hi : i ≤ n) (hs : Skips l i q)
    (hqe : q < e) (hen : e ≤ n) (hin : ∀ j, q < j → j < e → NameChar (ch l j)) (hout : ¬ NameChar (ch l e)) (hc : ch l q = 99) :
    Calls Tryz.prog 133 #[.pointer (some ⟨p, 0, none⟩), .int .i64 (i : Int)] w fun x w' =>
      x = .returned (.tuple #[.agg #[.int .i64 15, .int .i64 q, .int .i64 e, .string (sub l q e)], .nilIface]) ∧ Below w.heap.size w w' := by
  obtain ⟨c1, c2, c3⟩ := hS.cells
  have hb1 := fun o => (Below.refl _ w).alloc (Nat.le_refl _) o
  have HS := Lib.hid (fun o => skip_any (hS.body.below (hb1 o)) cap i q hn hi hs)
  have HN := Lib.hid (fun o => name_any (hS.below (hb1 o)) q e hn hqe hen hin hout)
  have HR := Lib.hid (fun o => runeAt_in (hS.body.below (hb1 o)) cap (q : Int) (by omega) (by omega) 99 (by rw [Int.toNat_natCast]; exact hc))
  have HB := Lib.hid hb1
  clear c3 hs hin hout hb1 hc
  go_enter Tryz.func133, Tryz.ntmps133
  go_wp2_with (first | (go_at_call 153; refine (HS.out _).mono ?_; rintro x w' ⟨rfl, rfl⟩) | (go_at_call 155; refine (HR.out _).mono ?_; rintro x w' ⟨rfl, rfl⟩))
  refine (HN.out _).mono ?_
  rintro x W2 ⟨rfl, hb2⟩
  obtain ⟨a0, a1, a2, a3, af, alt⟩ := box4 hb2
  have HB2 := Lib.hid hb2
  clear hb2
  have s0 : ∀ v, (W2.setCell ⟨w.heap.size, 0, none⟩ v).cell? ⟨w.heap.size, 0, none⟩ = some v := fun v => World.cell?_setCell_same _ _ _ a0
  go_wp2_with fail
  refine bodyPost_ret (v := .tuple #[.agg #[.int .i64 15, .int .i64 q, .int .i64 e, .string (sub l q e)], .nilIface]) (by simp [results, Tryz.results133, go_sem, s0, a1, a2, a3]) rfl ⟨rfl, ?_⟩
  have hb2 := HB2.out
  exact (((((HB.out _).trans (hb2.mono (by simp))).setCell (Nat.le_refl _) _).setCell (Nat.le_refl _) _).setCell (Nat.le_refl _) _).setCell (Nat.le_refl _) _

set_option maxHeartbeats 3200000 in
set_option maxRecDepth 100000 in
theorem tok_c100 {w : World} {p b n cap : Nat} {l : List UInt8} (hS : Src w p b n cap l) (hn : n ≤ 4611686018427387904) (i q e : Nat) (hi : i ≤ n) (hs : Skips l i q)
    (hqe : q < e) (hen : e ≤ n) (hin : ∀ j, q < j → j < e → NameChar (ch l j)) (hout : ¬ NameChar (ch l e)) (hc : ch l q = 100) :
    Calls Tryz.prog 133 #[.pointer (some ⟨p, 0, none⟩), .int .i64 (i : Int)] w fun x w' =>
      x = .returned (.tuple #[.agg #[.int .i64 15, .int .i64 q, .int .i64 e, .string (sub l q e)], .nilIface]) ∧ Below w.heap.size w w' := by
  obtain ⟨c1, c2, c3⟩ := hS.cells
  have hb1 := fun o => (Below.refl _ w).alloc (Nat.le_refl _) o
  have HS := Lib.hid (fun o => skip_any (hS.body.below (hb1 o)) cap i q hn hi hs)
  have HN := Lib.hid (fun o => name_any (hS.below (hb1 o)) q e hn hqe hen hin hout)
  have HR := Lib.hid (fun o => runeAt_in (hS.body.below (hb1 o)) cap (q : Int) (by omega) (by omega) 100 (by rw [Int.toNat_natCast]; exact hc))
  have HB := Lib.hid hb1
  clear c3 hs hin hout hb1 hc
  go_enter Tryz.func133, Tryz.ntmps133
  go_wp2_with (first | (go_at_call 153; refine (HS.out _).mono ?_; rintro x w' ⟨rfl, rfl⟩) | (go_at_call 155; refine (HR.out _).mono ?_; rintro x w' ⟨rfl, rfl⟩))
  refine (HN.out _).mono ?_
  rintro x W2 ⟨rfl, hb2⟩
  obtain ⟨a0, a1, a2, a3, af, alt⟩ := box4 hb2
  have HB2 := Lib.hid hb2
  clear hb2
  have s0 : ∀ v, (W2.setCell ⟨w.heap.size, 0, none⟩ v).cell? ⟨w.heap.size, 0, none⟩ = some v := fun v => World.cell?_setCell_same _ _ _ a0
  go_wp2_with fail
  refine bodyPost_ret (v := .tuple #[.agg #[.int .i64 15, .int .i64 q, .int .i64 e, .string (sub l q e)], .nilIface]) (by simp [results, Tryz.results133, go_sem, s0, a1, a2, a3]) rfl ⟨rfl, ?_⟩
  have hb2 := HB2.out
  exact (((((HB.out _).trans (hb2.mono (by simp))).setCell (Nat.le_refl _) _).setCell (Nat.le_refl _) _).setCell (Nat.le_refl _) _).setCell (Nat.le_refl _) _

set_option maxHeartbeats 3200000 in
set_option maxRecDepth 100000 in
theorem tok_c101 {w : World} {p b n cap : Nat} {l : List UInt8} (hS : Src w p b n cap l) (hn : n ≤ 4611686018427387904) (i q e : Nat) (hi : i ≤ n) (hs : Skips l i q)
    (hqe : q < e) (hen : e ≤ n) (hin : ∀ j, q < j → j < e → NameChar (ch l j)) (hout : ¬ NameChar (ch l e)) (hc : ch l q = 101) :
    Calls Tryz.prog 133 #[.pointer (some ⟨p, 0, none⟩), .int .i64 (i : Int)] w fun x w' =>
      x = .returned (.tuple #[.agg #[.int .i64 15, .int .i64 q, .int .i64 e, .string (sub l q e)], .nilIface]) ∧ Below w.heap.size w w' := by
  obtain ⟨c1, c2, c3⟩ := hS.cells
  have hb1 := fun o => (Below.refl _ w).alloc (Nat.le_refl _) o
  have HS := Lib.hid (fun o => skip_any (hS.body.below (hb1 o)) cap i q hn hi hs)
  have HN := Lib.hid (fun o => name_any (hS.below (hb1 o)) q e hn hqe hen hin hout)
  have HR := Lib.hid (fun o => runeAt_in (hS.body.below (hb1 o)) cap (q : Int) (by omega) (by omega) 101 (by rw [Int.toNat_natCast]; exact hc))
  have HB := Lib.hid hb1
  clear c3 hs hin hout hb1 hc
  go_enter Tryz.func133, Tryz.ntmps133
  go_wp2_with (first | (go_at_call 153; refine (HS.out _).mono ?_; rintro x w' ⟨rfl, rfl⟩) | (go_at_call 155; refine (HR.out _).mono ?_; rintro x w' ⟨rfl, rfl⟩))
  refine (HN.out _).mono ?_
  rintro x W2 ⟨rfl, hb2⟩
  obtain ⟨a0, a1, a2, a3, af, alt⟩ := box4 hb2
  have HB2 := Lib.hid hb2
  clear hb2
  have s0 : ∀ v, (W2.setCell ⟨w.heap.size, 0, none⟩ v).cell? ⟨w.heap.size, 0, none⟩ = some v := fun v => World.cell?_setCell_same _ _ _ a0
  go_wp2_with fail
  refine bodyPost_ret (v := .tuple #[.agg #[.int .i64 15, .int .i64 q, .int .i64 e, .string (sub l q e)], .nilIface]) (by simp [results, Tryz.results133, go_sem, s0, a1, a2, a3]) rfl ⟨rfl, ?_⟩
  have hb2 := HB2.out
  exact (((((HB.out _).trans (hb2.mono (by simp))).setCell (Nat.le_refl _) _).setCell (Nat.le_refl _) _).setCell (Nat.le_refl _) _).setCell (Nat.le_refl _) _

set_option maxHeartbeats 3200000 in
set_option maxRecDepth 100000 in
theorem tok_c102 {w : World} {p b n cap : Nat} {l : List UInt8} (hS : Src w p b n cap l) (hn : n ≤ 4611686018427387904) (i q e : Nat) (hi : i ≤ n) (hs : Skips l i q)
    (hqe : q < e) (hen : e ≤ n) (hin : ∀ j, q < j → j < e → NameChar (ch l j)) (hout : ¬ NameChar (ch l e)) (hc : ch l q = 102) :
    Calls Tryz.prog 133 #[.pointer (some ⟨p, 0, none⟩), .int .i64 (i : Int)] w fun x w' =>
      x = .returned (.tuple #[.agg #[.int .i64 15, .int .i64 q, .int .i64 e, .string (sub l q e)], .nilIface]) ∧ Below w.heap.size w w' := by
  obtain ⟨c1, c2, c3⟩ := hS.cells
  have hb1 := fun o => (Below.refl _ w).alloc (Nat.le_refl _) o
  have HS := Lib.hid (fun o => skip_any (hS.body.below (hb1 o)) cap i q hn hi hs)
  have HN := Lib.hid (fun o => name_any (hS.below (hb1 o)) q e hn hqe hen hin hout)
  have HR := Lib.hid (fun o => runeAt_in (hS.body.below (hb1 o)) cap (q : Int) (by omega) (by omega) 102 (by rw [Int.toNat_natCast]; exact hc))
  have HB := Lib.hid hb1
  clear c3 hs hin hout hb1 hc
  go_enter Tryz.func133, Tryz.ntmps133
  go_wp2_with (first | (go_at_call 153; refine (HS.out _).mono ?_; rintro x w' ⟨rfl, rfl⟩) | (go_at_call 155; refine (HR.out _).mono ?_; rintro x w' ⟨rfl, rfl⟩))
  refine (HN.out _).mono ?_
  rintro x W2 ⟨rfl, hb2⟩
  obtain ⟨a0, a1, a2, a3, af, alt⟩ := box4 hb2
  have HB2 := Lib.hid hb2
  clear hb2
  have s0 : ∀ v, (W2.setCell ⟨w.heap.size, 0, none⟩ v).cell? ⟨w.heap.size, 0, none⟩ = some v := fun v => World.cell?_setCell_same _ _ _ a0
  go_wp2_with fail
  refine bodyPost_ret (v := .tuple #[.agg #[.int .i64 15, .int .i64 q, .int .i64 e, .string (sub l q e)], .nilIface]) (by simp [results, Tryz.results133, go_sem, s0, a1, a2, a3]) rfl ⟨rfl, ?_⟩
  have hb2 := HB2.out
  exact (((((HB.out _).trans (hb2.mono (by simp))).setCell (Nat.le_refl _) _).setCell (Nat.le_refl _) _).setCell (Nat.le_refl _) _).setCell (Nat.le_refl _) _

set_option maxHeartbeats 3200000 in
set_option maxRecDepth 100000 in
theorem tok_c103 {w : World} {p b n cap : Nat} {l : List UInt8} (hS : Src w p b n cap l) (hn : n ≤ 4611686018427387904) (i q e : Nat) (hi : i ≤ n) (hs : Skips l i q)
    (hqe : q < e) (hen : e ≤ n) (hin : ∀ j, q < j → j < e → NameChar (ch l j)) (hout : ¬ NameChar (ch l e)) (hc : ch l q = 103) :
    Calls Tryz.prog 133 #[.pointer (some ⟨p, 0, none⟩), .int .i64 (i : Int)] w fun x w' =>
      x = .returned (.tuple #[.agg #[.int .i64 15, .int .i64 q, .int .i64 e, .string (sub l q e)], .nilIface]) ∧ Below w.heap.size w w' := by
  obtain ⟨c1, c2, c3⟩ := hS.cells
  have hb1 := fun o => (Below.refl _ w).alloc (Nat.le_refl _) o
  have HS := Lib.hid (fun o => skip_any (hS.body.below (hb1 o)) cap i q hn hi hs)
  have HN := Lib.hid (fun o => name_any (hS.below (hb1 o)) q e hn hqe hen hin hout)
  have HR := Lib.hid (fun o => runeAt_in (hS.body.below (hb1 o)) cap (q : Int) (by omega) (by omega) 103 (by rw [Int.toNat_natCast]; exact hc))
  have HB := Lib.hid hb1
  clear c3 hs hin hout hb1 hc
  go_enter Tryz.func133, Tryz.ntmps133
  go_wp2_with (first | (go_at_call 153; refine (HS.out _).mono ?_; rintro x w' ⟨rfl, rfl⟩) | (go_at_call 155; refine (HR.out _).mono ?_; rintro x w' ⟨rfl, rfl⟩))
  refine (HN.out _).mono ?_
  rintro x W2 ⟨rfl, hb2⟩
  obtain ⟨a0, a1, a2, a3, af, alt⟩ := box4 hb2
  have HB2 := Lib.hid hb2
  clear hb2
  have s0 : ∀ v, (W2.setCell ⟨w.heap.size, 0, none⟩ v).cell? ⟨w.heap.size, 0, none⟩ = some v := fun v => World.cell?_setCell_same _ _ _ a0
  go_wp2_with fail
  refine bodyPost_ret (v := .tuple #[.agg #[.int .i64 15, .int .i64 q, .int .i64 e, .string (sub l q e)], .nilIface]) (by simp [results, Tryz.results133, go_sem, s0, a1, a2, a3]) rfl ⟨rfl, ?_⟩
  have hb2 := HB2.out
  exact (((((HB.out _).trans (hb2.mono (by simp))).setCell (Nat.le_refl _) _).setCell (Nat.le_refl _) _).setCell (Nat.le_refl _) _).setCell (Nat.le_refl _) _

set_option maxHeartbeats 3200000 in
set_option maxRecDepth 100000 in
theorem tok_c104 {w : World} {p b n cap : Nat} {l : List UInt8} (hS : Src w p b n cap l) (hn : n ≤ 4611686018427387904) (i q e : Nat) (hi : i ≤ n) (hs : Skips l i q)
    (hqe : q < e) (hen : e ≤ n) (hin : ∀ j, q < j → j < e → NameChar (ch l j)) (hout : ¬ NameChar (ch l e)) (hc : ch l q = 104) :
    Calls Tryz.prog 133 #[.pointer (some ⟨p, 0, none⟩), .int .i64 (i : Int)] w fun x w' =>
      x = .returned (.tuple #[.agg #[.int .i64 15, .int .i64 q, .int .i64 e, .string (sub l q e)], .nilIface]) ∧ Below w.heap.size w w' := by
  obtain ⟨c1, c2, c3⟩ := hS.cells
  have hb1 := fun o => (Below.refl _ w).alloc (Nat.le_refl _) o
  have HS := Lib.hid (fun o => skip_any (hS.body.below (hb1 o)) cap i q hn hi hs)
  have HN := Lib.hid (fun o => name_any (hS.below (hb1 o)) q e hn hqe hen hin hout)
  have HR := Lib.hid (fun o => runeAt_in (hS.body.below (hb1 o)) cap (q : Int) (by omega) (by omega) 104 (by rw [Int.toNat_natCast]; exact hc))
  have HB := Lib.hid hb1
  clear c3 hs hin hout hb1 hc
  go_enter Tryz.func133, Tryz.ntmps133
  go_wp2_with (first | (go_at_call 153; refine (HS.out _).mono ?_; rintro x w' ⟨rfl, rfl⟩) | (go_at_call 155; refine (HR.out _).mono ?_; rintro x w' ⟨rfl, rfl⟩))
  refine (HN.out _).mono ?_
  rintro x W2 ⟨rfl, hb2⟩
  obtain ⟨a0, a1, a2, a3, af, alt⟩ := box4 hb2
  have HB2 := Lib.hid hb2
  clear hb2
  have s0 : ∀ v, (W2.setCell ⟨w.heap.size, 0, none⟩ v).cell? ⟨w.heap.size, 0, none⟩ = some v := fun v => World.cell?_setCell_same _ _ _ a0
  go_wp2_with fail
  refine bodyPost_ret (v := .tuple #[.agg #[.int .i64 15, .int .i64 q, .int .i64 e, .string (sub l q e)], .nilIface]) (by simp [results, Tryz.results133, go_sem, s0, a1, a2, a3]) rfl ⟨rfl, ?_⟩
  have hb2 := HB2.out
  exact (((((HB.out _).trans (hb2.mono (by simp))).setCell (Nat.le_refl _) _).setCell (Nat.le_refl _) _).setCell (Nat.le_refl _) _).setCell (Nat.le_refl _) _

set_option maxHeartbeats 3200000 in
set_option maxRecDepth 100000 in
theorem tok_c105 {w : World} {p b n cap : Nat} {l : List UInt8} (hS : Src w p b n cap l) (hn : n ≤ 4611686018427387904) (i q e : Nat) (hi : i ≤ n) (hs : Skips l i q)
    (hqe : q < e) (hen : e ≤ n) (hin : ∀ j, q < j → j < e → NameChar (ch l j)) (hout : ¬ NameChar (ch l e)) (hc : ch l q = 105) :
    Calls Tryz.prog 133 #[.pointer (some ⟨p, 0, none⟩), .int .i64 (i : Int)] w fun x w' =>
      x = .returned (.tuple #[.agg #[.int .i64 15, .int .i64 q, .int .i64 e, .string (sub l q e)], .nilIface]) ∧ Below w.heap.size w w' := by
  obtain ⟨c1, c2, c3⟩ := hS.cells
  have hb1 := fun o => (Below.refl _ w).alloc (Nat.le_refl _) o
  have HS := Lib.hid (fun o => skip_any (hS.body.below (hb1 o)) cap i q hn hi hs)
  have HN := Lib.hid (fun o => name_any (hS.below (hb1 o)) q e hn hqe hen hin hout)
  have HR := Lib.hid (fun o => runeAt_in (hS.body.below (hb1 o)) cap (q : Int) (by omega) (by omega) 105 (by rw [Int.toNat_natCast]; exact hc))
  have HB := Lib.hid hb1
  clear c3 hs hin hout hb1 hc
  go_enter Tryz.func133, Tryz.ntmps133
  go_wp2_with (first | (go_at_call 153; refine (HS.out _).mono ?_; rintro x w' ⟨rfl, rfl⟩) | (go_at_call 155; refine (HR.out _).mono ?_; rintro x w' ⟨rfl, rfl⟩))
  refine (HN.out _).mono ?_
  rintro x W2 ⟨rfl, hb2⟩
  obtain ⟨a0, a1, a2, a3, af, alt⟩ := box4 hb2
  have HB2 := Lib.hid hb2
  clear hb2
  have s0 : ∀ v, (W2.setCell ⟨w.heap.size, 0, none⟩ v).cell? ⟨w.heap.size, 0, none⟩ = some v := fun v => World.cell?_setCell_same _ _ _ a0
  go_wp2_with fail
  refine bodyPost_ret (v := .tuple #[.agg #[.int .i64 15, .int .i64 q, .int .i64 e, .string (sub l q e)], .nilIface]) (by simp [results, Tryz.results133, go_sem, s0, a1, a2, a3]) rfl ⟨rfl, ?_⟩
  have hb2 := HB2.out
  exact (((((HB.out _).trans (hb2.mono (by simp))).setCell (Nat.le_refl _) _).setCell (Nat.le_refl _) _).setCell (Nat.le_refl _) _).setCell (Nat.le_refl _) _

set_option maxHeartbeats 3200000 in
set_option maxRecDepth 100000 in
theorem tok_c106 {w : World} {p b n cap : Nat} {l : List UInt8} (hS : Src w p b n cap l) (hn : n ≤ 4611686018427387904) (i q e : Nat) (hi : i ≤ n) (hs : Skips l i q)
    (hqe : q < e) (hen : e ≤ n) (hin : ∀ j, q < j → j < e → NameChar (ch l j)) (hout : ¬ NameChar (ch l e)) (hc : ch l q = 106) :
    Calls Tryz.prog 133 #[.pointer (some ⟨p, 0, none⟩), .int .i64 (i : Int)] w fun x w' =>
      x = .returned (.tuple #[.agg #[.int .i64 15, .int .i64 q, .int .i64 e, .string (sub l q e)], .nilIface]) ∧ Below w.heap.size w w' := by
  obtain ⟨c1, c2, c3⟩ := hS.cells
  have hb1 := fun o => (Below.refl _ w).alloc (Nat.le_refl _) o
  have HS := Lib.hid (fun o => skip_any (hS.body.below (hb1 o)) cap i q hn hi hs)
  have HN := Lib.hid (fun o => name_any (hS.below (hb1 o)) q e hn hqe hen hin hout)
  have HR := Lib.hid (fun o => runeAt_in (hS.body.below (hb1 o)) cap (q : Int) (by omega) (by omega) 106 (by rw [Int.toNat_natCast]; exact hc))
  have HB := Lib.hid hb1
  clear c3 hs hin hout hb1 hc
  go_enter Tryz.func133, Tryz.ntmps133
  go_wp2_with (first | (go_at_call 153; refine (HS.out _).mono ?_; rintro x w' ⟨rfl, rfl⟩) | (go_at_call 155; refine (HR.out _).mono ?_; rintro x w' ⟨rfl, rfl⟩))
  refine (HN.out _).mono ?_
  rintro x W2 ⟨rfl, hb2⟩
  obtain ⟨a0, a1, a2, a3, af, alt⟩ := box4 hb2
  have HB2 := Lib.hid hb2
  clear hb2
  have s0 : ∀ v, (W2.setCell ⟨w.heap.size, 0, none⟩ v).cell? ⟨w.heap.size, 0, none⟩ = some v := fun v => World.cell?_setCell_same _ _ _ a0
  go_wp2_with fail
  refine bodyPost_ret (v := .tuple #[.agg #[.int .i64 15, .int .i64 q, .int .i64 e, .string (sub l q e)], .nilIface]) (by simp [results, Tryz.results133, go_sem, s0, a1, a2, a3]) rfl ⟨rfl, ?_⟩
  have hb2 := HB2.out
  exact (((((HB.out _).trans (hb2.mono (by simp))).setCell (Nat.le_refl _) _).setCell (Nat.le_refl _) _).setCell (Nat.le_refl _) _).setCell (Nat.le_refl _) _

set_option maxHeartbeats 3200000 in
set_option maxRecDepth 100000 in
theorem tok_c107 {w : World} {p b n cap : Nat} {l : List UInt8} (hS : Src w p b n cap l) (hn : n ≤ 4611686018427387904) (i q e : Nat) (hi : i ≤ n) (hs : Skips l i q)
    (hqe : q < e) (hen : e ≤ n) (hin : ∀ j, q < j → j < e → NameChar (ch l j)) (hout : ¬ NameChar (ch l e)) (hc : ch l q = 107) :
    Calls Tryz.prog 133 #[.pointer (some ⟨p, 0, none⟩), .int .i64 (i : Int)] w fun x w' =>
      x = .returned (.tuple #[.agg #[.int .i64 15, .int .i64 q, .int .i64 e, .string (sub l q e)], .nilIface]) ∧ Below w.heap.size w w' := by
  obtain ⟨c1, c2, c3⟩ := hS.cells
  have hb1 := fun o => (Below.refl _ w).alloc (Nat.le_refl _) o
  have HS := Lib.hid (fun o => skip_any (hS.body.below (hb1 o)) cap i q hn hi hs)
  have HN := Lib.hid (fun o => name_any (hS.below (hb1 o)) q e hn hqe hen hin hout)
  have HR := Lib.hid (fun o => runeAt_in (hS.body.below (hb1 o)) cap (q : Int) (by omega) (by omega) 107 (by rw [Int.toNat_natCast]; exact hc))
  have HB := Lib.hid hb1
  clear c3 hs hin hout hb1 hc
  go_enter Tryz.func133, Tryz.ntmps133
  go_wp2_with (first | (go_at_call 153; refine (HS.out _).mono ?_; rintro x w' ⟨rfl, rfl⟩) | (go_at_call 155; refine (HR.out _).mono ?_; rintro x w' ⟨rfl, rfl⟩))
  refine (HN.out _).mono ?_
  rintro x W2 ⟨rfl, hb2⟩
  obtain ⟨a0, a1, a2, a3, af, alt⟩ := box4 hb2
  have HB2 := Lib.hid hb2
  clear hb2
  have s0 : ∀ v, (W2.setCell ⟨w.heap.size, 0, none⟩ v).cell? ⟨w.heap.size, 0, none⟩ = some v := fun v => World.cell?_setCell_same _ _ _ a0
  go_wp2_with fail
  refine bodyPost_ret (v := .tuple #[.agg #[.int .i64 15, .int .i64 q, .int .i64 e, .string (sub l q e)], .nilIface]) (by simp [results, Tryz.results133, go_sem, s0, a1, a2, a3]) rfl ⟨rfl, ?_⟩
  have hb2 := HB2.out
  exact (((((HB.out _).trans (hb2.mono (by simp))).setCell (Nat.le_refl _) _).setCell (Nat.le_refl _) _).setCell (Nat.le_refl _) _).setCell (Nat.le_refl _) _

set_option maxHeartbeats 3200000 in
set_option maxRecDepth 100000 in
theorem tok_c108 {w : World} {p b n cap : Nat} {l : List UInt8} (hS : Src w p b n cap l) (hn : n ≤ 4611686018427387904) (i q e : Nat) (hi : i ≤ n) (hs : Skips l i q)
    (hqe : q < e) (hen : e ≤ n) (hin : ∀ j, q < j → j < e → NameChar (ch l j)) (hout : ¬ NameChar (ch l e)) (hc : ch l q = 108) :
    Calls Tryz.prog 133 #[.pointer (some ⟨p, 0, none⟩), .int .i64 (i : Int)] w fun x w' =>
      x = .returned (.tuple #[.agg #[.int .i64 15, .int .i64 q, .int .i64 e, .string (sub l q e)], .nilIface]) ∧ Below w.heap.size w w' := by
  obtain ⟨c1, c2, c3⟩ := hS.cells
  have hb1 := fun o => (Below.refl _ w).alloc (Nat.le_refl _) o
  have HS := Lib.hid (fun o => skip_any (hS.body.below (hb1 o)) cap i q hn hi hs)
  have HN := Lib.hid (fun o => name_any (hS.below (hb1 o)) q e hn hqe hen hin hout)
  have HR := Lib.hid (fun o => runeAt_in (hS.body.below (hb1 o)) cap (q : Int) (by omega) (by omega) 108 (by rw [Int.toNat_natCast]; exact hc))
  have HB := Lib.hid hb1
  clear c3 hs hin hout hb1 hc
  go_enter Tryz.func133, Tryz.ntmps133
  go_wp2_with (first | (go_at_call 153; refine (HS.out _).mono ?_; rintro x w' ⟨rfl, rfl⟩) | (go_at_call 155; refine (HR.out _).mono ?_; rintro x w' ⟨rfl, rfl⟩))
  refine (HN.out _).mono ?_
  rintro x W2 ⟨rfl, hb2⟩
  obtain ⟨a0, a1, a2, a3, af, alt⟩ := box4 hb2
  have HB2 := Lib.hid hb2
  clear hb2
  have s0 : ∀ v, (W2.setCell ⟨w.heap.size, 0, none⟩ v).cell? ⟨w.heap.size, 0, none⟩ = some v := fun v => World.cell?_setCell_same _ _ _ a0
  go_wp2_with fail
  refine bodyPost_ret (v := .tuple #[.agg #[.int .i64 15, .int .i64 q, .int .i64 e, .string (sub l q e)], .nilIface]) (by simp [results, Tryz.results133, go_sem, s0, a1, a2, a3]) rfl ⟨rfl, ?_⟩
  have hb2 := HB2.out
  exact (((((HB.out _).trans (hb2.mono (by simp))).setCell (Nat.le_refl _) _).setCell (Nat.le_refl _) _).setCell (Nat.le_refl _) _).setCell (Nat.le_refl _) _

set_option maxHeartbeats 3200000 in
set_option maxRecDepth 100000 in
theorem tok_c109 {w : World} {p b n cap : Nat} {l : List UInt8} (hS : Src w p b n cap l) (hn : n ≤ 4611686018427387904) (i q e : Nat) (hi : i ≤ n) (hs : Skips l i q)
    (hqe : q < e) (hen : e ≤ n) (hin : ∀ j, q < j → j < e → NameChar (ch l j)) (hout : ¬ NameChar (ch l e)) (hc : ch l q = 109) :
    Calls Tryz.prog 133 #[.pointer (some ⟨p, 0, none⟩), .int .i64 (i : Int)] w fun x w' =>
      x = .returned (.tuple #[.agg #[.int .i64 15, .int .i64 q, .int .i64 e, .string (sub l q e)], .nilIface]) ∧ Below w.heap.size w w' := by
  obtain ⟨c1, c2, c3⟩ := hS.cells
  have hb1 := fun o => (Below.refl _ w).alloc (Nat.le_refl _) o
  have HS := Lib.hid (fun o => skip_any (hS.body.below (hb1 o)) cap i q hn hi hs)
  have HN := Lib.hid (fun o => name_any (hS.below (hb1 o)) q e hn hqe hen hin hout)
  have HR := Lib.hid (fun o => runeAt_in (hS.body.below (hb1 o)) cap (q : Int) (by omega) (by omega) 109 (by rw [Int.toNat_natCast]; exact hc))
  have HB := Lib.hid hb1
  clear c3 hs hin hout hb1 hc
  go_enter Tryz.func133, Tryz.ntmps133
  go_wp2_with (first | (go_at_call 153; refine (HS.out _).mono ?_; rintro x w' ⟨rfl, rfl⟩) | (go_at_call 155; refine (HR.out _).mono ?_; rintro x w' ⟨rfl, rfl⟩))
  refine (HN.out _).mono ?_
  rintro x W2 ⟨rfl, hb2⟩
  obtain ⟨a0, a1, a2, a3, af, alt⟩ := box4 hb2
  have HB2 := Lib.hid hb2
  clear hb2
  have s0 : ∀ v, (W2.setCell ⟨w.heap.size, 0, none⟩ v).cell? ⟨w.heap.size, 0, none⟩ = some v := fun v => World.cell?_setCell_same _ _ _ a0
  go_wp2_with fail
  refine bodyPost_ret (v := .tuple #[.agg #[.int .i64 15, .int .i64 q, .int .i64 e, .string (sub l q e)], .nilIface]) (by simp [results, Tryz.results133, go_sem, s0, a1, a2, a3]) rfl ⟨rfl, ?_⟩
  have hb2 := HB2.out
  exact (((((HB.out _).trans (hb2.mono (by simp))).setCell (Nat.le_refl _) _).setCell (Nat.le_refl _) _).setCell (Nat.le_refl _) _).setCell (Nat.le_refl _) _

end Go.Proofs.YtannihddhebcpaaGreatDoor
