/- ONE TOKEN (readToken): a name, by its first letter: 65 to 78. -/
import Derived.Test.YtannihddhebcpaaGreatDoorTokA
namespace Go.Proofs.YtannihddhebcpaaGreatDoor
open Go.RowKit

set_option maxHeartbeats 3200000 in
set_option maxRecDepth 100000 in
theorem tok_c65 {w : World} {p b n cap : Nat} {l : List UInt8} (hS : Src w p b n cap l) (hn : n ≤ 4611686018427387904) (i q e : Nat) (hi : i ≤ n) (hs : Skips l i q)
    (hqe : q < e) (hen : e ≤ n) (hin : ∀ j, q < j → j < e → NameChar (ch l j)) (hout : ¬ NameChar (ch l e)) (hc : ch l q = 65) :
    Calls Tryz.prog 133 #[.pointer (some ⟨p, 0, none⟩), .int .i64 (i : Int)] w fun x w' =>
      x = .returned (.tuple #[.agg #[.int .i64 15, .int .i64 q, .int .i64 e, .string (sub l q e)], .nilIface]) ∧ Below w.heap.size w w' := by
  obtain ⟨c1, c2, c3⟩ := hS.cells
  have hb1 := fun o => (Below.refl _ w).alloc (Nat.le_refl _) o
  have HS := Lib.hid (fun o => skip_any (hS.body.below (hb1 o)) cap i q hn hi hs)
  have HN := Lib.hid (fun o => name_any (hS.below (hb1 o)) q e hn hqe hen hin hout)
  have HR := Lib.hid (fun o => runeAt_in (hS.body.below (hb1 o)) cap (q : Int) (by omega) (by omega) 65 (by rw [Int.toNat_natCast]; exact hc))
  have HB := Lib.hid hb1
  clear c3 hs hin hout hb1 hc
  go_enter Tryz.func133, Tryz.ntmps133
  go_wp2_with (first | (go_at_call 153; refine (HS.out _).mono ?_; rintro x w' ⟨rfl, rfl⟩) | (go_at_call 155; refine (HR.out _).mono ?_; rintro x w' ⟨rfl, rfl⟩))
  refine (HN.out _).mono ?_
  rintro x W2 ⟨rfl, hb2⟩
  obtain ⟨a0, a1, a2, a3, af, alt⟩ := box4 hb2
  have HB2 := Lib.hid hb2
  clear hb2
  have s0 : ∀ v, (W2.setCell ⟨w.heap.size, 0, none⟩ v).cell? ⟨w.heap.size, 0, none⟩ = some v := fun v => World.cell?_setCell_same _ _ _ a0
  go_wp2_with fail
  refine bodyPost_ret (v := .tuple #[.agg #[.int .i64 15, .int .i64 q, .int .i64 e, .string (sub l q e)], .nilIface]) (by simp [results, Tryz.results133, go_sem, s0, a1, a2, a3]) rfl ⟨rfl, ?_⟩
  have hb2 := HB2.out
  exact (((((HB.out _).trans (hb2.mono (by simp))).setCell (Nat.le_refl _) _).setCell (Nat.le_refl _) _).setCell (Nat.le_refl _) _).setCell (Nat.le_refl _) _

set_option maxHeartbeats 3200000 in
set_option maxRecDepth 100000 in
theorem tok_c66 {w : World} {p b n cap : Nat} {l : List UInt8} (hS : Src w p b n cap l) (hn : n ≤ 4611686018427387904) (i q e : Nat) (hi : i ≤ n) (hs : Skips l i q)
    (hqe : q < e) (hen : e ≤ n) (hin : ∀ j, q < j → j < e → NameChar (ch l j)) (hout : ¬ NameChar (ch l e)) (hc : ch l q = 66) :
    Calls Tryz.prog 133 #[.pointer (some ⟨p, 0, none⟩), .int .i64 (i : Int)] w fun x w' =>
      x = .returned (.tuple #[.agg #[.int .i64 15, .int .i64 q, .int .i64 e, .string (sub l q e)], .nilIface]) ∧ Below w.heap.size w w' := by
  obtain ⟨c1, c2, c3⟩ := hS.cells
  have hb1 := fun o => (Below.refl _ w).alloc (Nat.le_refl _) o
  have HS := Lib.hid (fun o => skip_any (hS.body.below (hb1 o)) cap i q hn hi hs)
  have HN := Lib.hid (fun o => name_any (hS.below (hb1 o)) q e hn hqe hen hin hout)
  have HR := Lib.hid (fun o => runeAt_in (hS.body.below (hb1 o)) cap (q : Int) (by omega) (by omega) 66 (by rw [Int.toNat_natCast]; exact hc))
  have HB := Lib.hid hb1
  clear c3 hs hin hout hb1 hc
  go_enter Tryz.func133, Tryz.ntmps133
  go_wp2_with (first | (go_at_call 153; refine (HS.out _).mono ?_; rintro x w' ⟨rfl, rfl⟩) | (go_at_call 155; refine (HR.out _).mono ?_; rintro x w' ⟨rfl, rfl⟩))
  refine (HN.out _).mono ?_
  rintro x W2 ⟨rfl, hb2⟩
  obtain ⟨a0, a1, a2, a3, af, alt⟩ := box4 hb2
  have HB2 := Lib.hid hb2
  clear hb2
  have s0 : ∀ v, (W2.setCell ⟨w.heap.size, 0, none⟩ v).cell? ⟨w.heap.size, 0, none⟩ = some v := fun v => World.cell?_setCell_same _ _ _ a0
  go_wp2_with fail
  refine bodyPost_ret (v := .tuple #[.agg #[.int .i64 15, .int .i64 q, .int .i64 e, .string (sub l q e)], .nilIface]) (by simp [results, Tryz.results133, go_sem, s0, a1, a2, a3]) rfl ⟨rfl, ?_⟩
  have hb2 := HB2.out
  exact (((((HB.out _).trans (hb2.mono (by simp))).setCell (Nat.le_refl _) _).setCell (Nat.le_refl _) _).setCell (Nat.le_refl _) _).setCell (Nat.le_refl _) _

set_option maxHeartbeats 3200000 in
set_option maxRecDepth 100000 in
theorem tok_c67 {w : World} {p b n cap : Nat} {l : List UInt8} (hS : Src w p b n cap l) (hn : n ≤ 4611686018427387904) (i q e : Nat) (hi : i ≤ n) (hs : Skips l i q)
    (hqe : q < e) (hen : e ≤ n) (hin : ∀ j, q < j → j < e → NameChar (ch l j)) (hout : ¬ NameChar (ch l e)) (hc : ch l q = 67) :
    Calls Tryz.prog 133 #[.pointer (some ⟨p, 0, none⟩), .int .i64 (i : Int)] w fun x w' =>
      x = .returned (.tuple #[.agg #[.int .i64 15, .int .i64 q, .int .i64 e, .string (sub l q e)], .nilIface]) ∧ Below w.heap.size w w' := by
  obtain ⟨c1, c2, c3⟩ := hS.cells
  have hb1 := fun o => (Below.refl _ w).alloc (Nat.le_refl _) o
  have HS := Lib.hid (fun o => skip_any (hS.body.below (hb1 o)) cap i q hn hi hs)
  have HN := Lib.hid (fun o => name_any (hS.below (hb1 o)) q e hn hqe hen hin hout)
  have HR := Lib.hid (fun o => runeAt_in (hS.body.below (hb1 o)) cap (q : Int) (by omega) (by omega) 67 (by rw [Int.toNat_natCast]; exact hc))
  have HB := Lib.hid hb1
  clear c3 hs hin hout hb1 hc
  go_enter Tryz.func133, Tryz.ntmps133
  go_wp2_with (first | (go_at_call 153; refine (HS.out _).mono ?_; rintro x w' ⟨rfl, rfl⟩) | (go_at_call 155; refine (HR.out _).mono ?_; rintro x w' ⟨rfl, rfl⟩))
  refine (HN.out _).mono ?_
  rintro x W2 ⟨rfl, hb2⟩
  obtain ⟨a0, a1, a2, a3, af, alt⟩ := box4 hb2
  have HB2 := Lib.hid hb2
  clear hb2
  have s0 : ∀ v, (W2.setCell ⟨w.heap.size, 0, none⟩ v).cell? ⟨w.heap.size, 0, none⟩ = some v := fun v => World.cell?_setCell_same _ _ _ a0
  go_wp2_with fail
  refine bodyPost_ret (v := .tuple #[.agg #[.int .i64 15, .int .i64 q, .int .i64 e, .string (sub l q e)], .nilIface]) (by simp [results, Tryz.results133, go_sem, s0, a1, a2, a3]) rfl ⟨rfl, ?_⟩
  have hb2 := HB2.out
  exact (((((HB.out _).trans (hb2.mono (by simp))).setCell (Nat.le_refl _) _).setCell (Nat.le_refl _) _).setCell (Nat.le_refl _) _).setCell (Nat.le_refl _) _

set_option maxHeartbeats 3200000 in
set_option maxRecDepth 100000 in
theorem tok_c68 {w : World} {p b n cap : Nat} {l : List UInt8} (hS : Src w p b n cap l) (hn : n ≤ 4611686018427387904) (i q e : Nat) (hi : i ≤ n) (hs : Skips l i q)
    (hqe : q < e) (hen : e ≤ n) (hin : ∀ j, q < j → j < e → NameChar (ch l j)) (hout : ¬ NameChar (ch l e)) (hc : ch l q = 68) :
    Calls Tryz.prog 133 #[.pointer (some ⟨p, 0, none⟩), .int .i64 (i : Int)] w fun x w' =>
      x = .returned (.tuple #[.agg #[.int .i64 15, .int .i64 q, .int .i64 e, .string (sub l q e)], .nilIface]) ∧ Below w.heap.size w w' := by
  obtain ⟨c1, c2, c3⟩ := hS.cells
  have hb1 := fun o => (Below.refl _ w).alloc (Nat.le_refl _) o
  have HS := Lib.hid (fun o => skip_any (hS.body.below (hb1 o)) cap i q hn hi hs)
  have HN := Lib.hid (fun o => name_any (hS.below (hb1 o)) q e hn hqe hen hin hout)
  have HR := Lib.hid (fun o => runeAt_in (hS.body.below (hb1 o)) cap (q : Int) (by omega) (by omega) 68 (by rw [Int.toNat_natCast]; exact hc))
  have HB := Lib.hid hb1
  clear c3 hs hin hout hb1 hc
  go_enter Tryz.func133, Tryz.ntmps133
  go_wp2_with (first | (go_at_call 153; refine (HS.out _).mono ?_; rintro x w' ⟨rfl, rfl⟩) | (go_at_call 155; refine (HR.out _).mono ?_; rintro x w' ⟨rfl, rfl⟩))
  refine (HN.out _).mono ?_
  rintro x W2 ⟨rfl, hb2⟩
  obtain ⟨a0, a1, a2, a3, af, alt⟩ := box4 hb2
  have HB2 := Lib.hid hb2
  clear hb2
  have s0 : ∀ v, (W2.setCell ⟨w.heap.size, 0, none⟩ v).cell? ⟨w.heap.size, 0, none⟩ = some v := fun v => World.cell?_setCell_same _ _ _ a0
  go_wp2_with fail
  refine bodyPost_ret (v := .tuple #[.agg #[.int .i64 15, .int .i64 q, .int .i64 e, .string (sub l q e)], .nilIface]) (by simp [results, Tryz.results133, go_sem, s0, a1, a2, a3]) rfl ⟨rfl, ?_⟩
  have hb2 := HB2.out
  exact (((((HB.out _).trans (hb2.mono (by simp))).setCell (Nat.le_refl _) _).setCell (Nat.le_refl _) _).setCell (Nat.le_refl _) _).setCell (Nat.le_refl _) _

set_option maxHeartbeats 3200000 in
set_option maxRecDepth 100000 in
theorem tok_c69 {w : World} {p b n cap : Nat} {l : List UInt8} (hS : Src w p b n cap l) (hn : n ≤ 4611686018427387904) (i q e : Nat) (hi : i ≤ n) (hs : Skips l i q)
    (hqe : q < e) (hen : e ≤ n) (hin : ∀ j, q < j → j < e → NameChar (ch l j)) (hout : ¬ NameChar (ch l e)) (hc : ch l q = 69) :
    Calls Tryz.prog 133 #[.pointer (some ⟨p, 0, none⟩), .int .i64 (i : Int)] w fun x w' =>
      x = .returned (.tuple #[.agg #[.int .i64 15, .int .i64 q, .int .i64 e, .string (sub l q e)], .nilIface]) ∧ Below w.heap.size w w' := by
  obtain ⟨c1, c2, c3⟩ := hS.cells
  have hb1 := fun o => (Below.refl _ w).alloc (Nat.le_refl _) o
  have HS := Lib.hid (fun o => skip_any (hS.body.below (hb1 o)) cap i q hn hi hs)
  have HN := Lib.hid (fun o => name_any (hS.below (hb1 o)) q e hn hqe hen hin hout)
  have HR := Lib.hid (fun o => runeAt_in (hS.body.below (hb1 o)) cap (q : Int) (by omega) (by omega) 69 (by rw [Int.toNat_natCast]; exact hc))
  have HB := Lib.hid hb1
  clear c3 hs hin hout hb1 hc
  go_enter Tryz.func133, Tryz.ntmps133
  go_wp2_with (first | (go_at_call 153; refine (HS.out _).mono ?_; rintro x w' ⟨rfl, rfl⟩) | (go_at_call 155; refine (HR.out _).mono ?_; rintro x w' ⟨rfl, rfl⟩))
  refine (HN.out _).mono ?_
  rintro x W2 ⟨rfl, hb2⟩
  obtain ⟨a0, a1, a2, a3, af, alt⟩ := box4 hb2
  have HB2 := Lib.hid hb2
  clear hb2
  have s0 : ∀ v, (W2.setCell ⟨w.heap.size, 0, none⟩ v).cell? ⟨w.heap.size, 0, none⟩ = some v := fun v => World.cell?_setCell_same _ _ _ a0
  go_wp2_with fail
  refine bodyPost_ret (v := .tuple #[.agg #[.int .i64 15, .int .i64 q, .int .i64 e, .string (sub l q e)], .nilIface]) (by simp [results, Tryz.results133, go_sem, s0, a1, a2, a3]) rfl ⟨rfl, ?_⟩
  have hb2 := HB2.out
  exact (((((HB.out _).trans (hb2.mono (by simp))).setCell (Nat.le_refl _) _).setCell (Nat.le_refl _) _).setCell (Nat.le_refl _) _).setCell (Nat.le_refl _) _

set_option maxHeartbeats 3200000 in
set_option maxRecDepth 100000 in
theorem tok_c70 {w : World} {p b n cap : Nat} {l : List UInt8} (hS : Src w p b n cap l) (hn : n ≤ 4611686018427387904) (i q e : Nat) (hi : i ≤ n) (hs : Skips l i q)
    (hqe : q < e) (hen : e ≤ n) (hin : ∀ j, q < j → j < e → NameChar (ch l j)) (hout : ¬ NameChar (ch l e)) (hc : ch l q = 70) :
    Calls Tryz.prog 133 #[.pointer (some ⟨p, 0, none⟩), .int .i64 (i : Int)] w fun x w' =>
      x = .returned (.tuple #[.agg #[.int .i64 15, .int .i64 q, .int .i64 e, .string (sub l q e)], .nilIface]) ∧ Below w.heap.size w w' := by
  obtain ⟨c1, c2, c3⟩ := hS.cells
  have hb1 := fun o => (Below.refl _ w).alloc (Nat.le_refl _) o
  have HS := Lib.hid (fun o => skip_any (hS.body.below (hb1 o)) cap i q hn hi hs)
  have HN := Lib.hid (fun o => name_any (hS.below (hb1 o)) q e hn hqe hen hin hout)
  have HR := Lib.hid (fun o => runeAt_in (hS.body.below (hb1 o)) cap (q : Int) (by omega) (by omega) 70 (by rw [Int.toNat_natCast]; exact hc))
  have HB := Lib.hid hb1
  clear c3 hs hin hout hb1 hc
  go_enter Tryz.func133, Tryz.ntmps133
  go_wp2_with (first | (go_at_call 153; refine (HS.out _).mono ?_; rintro x w' ⟨rfl, rfl⟩) | (go_at_call 155; refine (HR.out _).mono ?_; rintro x w' ⟨rfl, rfl⟩))
  refine (HN.out _).mono ?_
  rintro x W2 ⟨rfl, hb2⟩
  obtain ⟨a0, a1, a2, a3, af, alt⟩ := box4 hb2
  have HB2 := Lib.hid hb2
  clear hb2
  have s0 : ∀ v, (W2.setCell ⟨w.heap.size, 0, none⟩ v).cell? ⟨w.heap.size, 0, none⟩ = some v := fun v => World.cell?_setCell_same _ _ _ a0
  go_wp2_with fail
  refine bodyPost_ret (v := .tuple #[.agg #[.int .i64 15, .int .i64 q, .int .i64 e, .string (sub l q e)], .nilIface]) (by simp [results, Tryz.results133, go_sem, s0, a1, a2, a3]) rfl ⟨rfl, ?_⟩
  have hb2 := HB2.out
  exact (((((HB.out _).trans (hb2.mono (by simp))).setCell (Nat.le_refl _) _).setCell (Nat.le_refl _) _).setCell (Nat.le_refl _) _).setCell (Nat.le_refl _) _

set_option maxHeartbeats 3200000 in
set_option maxRecDepth 100000 in
theorem tok_c71 {w : World} {p b n cap : Nat} {l : List UInt8} (hS : Src w p b n cap l) (hn : n ≤ 4611686018427387904) (i q e : Nat) (hi : i ≤ n) (hs : Skips l i q)
    (hqe : q < e) (hen : e ≤ n) (hin : ∀ j, q < j → j < e → NameChar (ch l j)) (hout : ¬ NameChar (ch l e)) (hc : ch l q = 71) :
    Calls Tryz.prog 133 #[.pointer (some ⟨p, 0, none⟩), .int .i64 (i : Int)] w fun x w' =>
      x = .returned (.tuple #[.agg #[.int .i64 15, .int .i64 q, .int .i64 e, .string (sub l q e)], .nilIface]) ∧ Below w.heap.size w w' := by
  obtain ⟨c1, c2, c3⟩ := hS.cells
  have hb1 := fun o => (Below.refl _ w).alloc (Nat.le_refl _) o
  have HS := Lib.hid (fun o => skip_any (hS.body.below (hb1 o)) cap i q hn hi hs)
  have HN := Lib.hid (fun o => name_any (hS.below (hb1 o)) q e hn hqe hen hin hout)
  have HR := Lib.hid (fun o => runeAt_in (hS.body.below (hb1 o)) cap (q : Int) (by omega) (by omega) 71 (by rw [Int.toNat_natCast]; exact hc))
  have HB := Lib.hid hb1
  clear c3 hs hin hout hb1 hc
  go_enter Tryz.func133, Tryz.ntmps133
  go_wp2_with (first | (go_at_call 153; refine (HS.out _).mono ?_; rintro x w' ⟨rfl, rfl⟩) | (go_at_call 155; refine (HR.out _).mono ?_; rintro x w' ⟨rfl, rfl⟩))
  refine (HN.out _).mono ?_
  rintro x W2 ⟨rfl, hb2⟩
  obtain ⟨a0, a1, a2, a3, af, alt⟩ := box4 hb2
  have HB2 := Lib.hid hb2
  clear hb2
  have s0 : ∀ v, (W2.setCell ⟨w.heap.size, 0, none⟩ v).cell? ⟨w.heap.size, 0, none⟩ = some v := fun v => World.cell?_setCell_same _ _ _ a0
  go_wp2_with fail
  refine bodyPost_ret (v := .tuple #[.agg #[.int .i64 15, .int .i64 q, .int .i64 e, .string (sub l q e)], .nilIface]) (by simp [results, Tryz.results133, go_sem, s0, a1, a2, a3]) rfl ⟨rfl, ?_⟩
  have hb2 := HB2.out
  exact (((((HB.out _).trans (hb2.mono (by simp))).setCell (Nat.le_refl _) _).setCell (Nat.le_refl _) _).setCell (Nat.le_refl _) _).setCell (Nat.le_refl _) _

set_option maxHeartbeats 3200000 in
set_option maxRecDepth 100000 in
theorem tok_c72 {w : World} {p b n cap : Nat} {l : List UInt8} (hS : Src w p b n cap l) (hn : n ≤ 4611686018427387904) (i q e : Nat) (hi : i ≤ n) (hs : Skips l i q)
    (hqe : q < e) (hen : e ≤ n) (hin : ∀ j, q < j → j < e → NameChar (ch l j)) (hout : ¬ NameChar (ch l e)) (hc : ch l q = 72) :
    Calls Tryz.prog 133 #[.pointer (some ⟨p, 0, none⟩), .int .i64 (i : Int)] w fun x w' =>
      x = .returned (.tuple #[.agg #[.int .i64 15, .int .i64 q, .int .i64 e, .string (sub l q e)], .nilIface]) ∧ Below w.heap.size w w' := by
  obtain ⟨c1, c2, c3⟩ := hS.cells
  have hb1 := fun o => (Below.refl _ w).alloc (Nat.le_refl _) o
  have HS := Lib.hid (fun o => skip_any (hS.body.below (hb1 o)) cap i q hn hi hs)
  have HN := Lib.hid (fun o => name_any (hS.below (hb1 o)) q e hn hqe hen hin hout)
  have HR := Lib.hid (fun o => runeAt_in (hS.body.below (hb1 o)) cap (q : Int) (by omega) (by omega) 72 (by rw [Int.toNat_natCast]; exact hc))
  have HB := Lib.hid hb1
  clear c3 hs hin hout hb1 hc
  go_enter Tryz.func133, Tryz.ntmps133
  go_wp2_with (first | (go_at_call 153; refine (HS.out _).mono ?_; rintro x w' ⟨rfl, rfl⟩) | (go_at_call 155; refine (HR.out _).mono ?_; rintro x w' ⟨rfl, rfl⟩))
  refine (HN.out _).mono ?_
  rintro x W2 ⟨rfl, hb2⟩
  obtain ⟨a0, a1, a2, a3, af, alt⟩ := box4 hb2
  have HB2 := Lib.hid hb2
  clear hb2
  have s0 : ∀ v, (W2.setCell ⟨w.heap.size, 0, none⟩ v).cell? ⟨w.heap.size, 0, none⟩ = some v := fun v => World.cell?_setCell_same _ _ _ a0
  go_wp2_with fail
  refine bodyPost_ret (v := .tuple #[.agg #[.int .i64 15, .int .i64 q, .int .i64 e, .string (sub l q e)], .nilIface]) (by simp [results, Tryz.results133, go_sem, s0, a1, a2, a3]) rfl ⟨rfl, ?_⟩
  have hb2 := HB2.out
  exact (((((HB.out _).trans (hb2.mono (by simp))).setCell (Nat.le_refl _) _).setCell (Nat.le_refl _) _).setCell (Nat.le_refl _) _).setCell (Nat.le_refl _) _

set_option maxHeartbeats 3200000 in
set_option maxRecDepth 100000 in
theorem tok_c73 {w : World} {p b n cap : Nat} {l : List UInt8} (hS : Src w p b n cap l) (hn : n ≤ 4611686018427387904) (i q e : Nat) (hi : i ≤ n) (hs : Skips l i q)
    (hqe : q < e) (hen : e ≤ n) (hin : ∀ j, q < j → j < e → NameChar (ch l j)) (hout : ¬ NameChar (ch l e)) (hc : ch l q = 73) :
    Calls Tryz.prog 133 #[.pointer (some ⟨p, 0, none⟩), .int .i64 (i : Int)] w fun x w' =>
      x = .returned (.tuple #[.agg #[.int .i64 15, .int .i64 q, .int .i64 e, .string (sub l q e)], .nilIface]) ∧ Below w.heap.size w w' := by
  obtain ⟨c1, c2, c3⟩ := hS.cells
  have hb1 := fun o => (Below.refl _ w).alloc (Nat.le_refl _) o
  have HS := Lib.hid (fun o => skip_any (hS.body.below (hb1 o)) cap i q hn hi hs)
  have HN := Lib.hid (fun o => name_any (hS.below (hb1 o)) q e hn hqe hen hin hout)
  have HR := Lib.hid (fun o => runeAt_in (hS.body.below (hb1 o)) cap (q : Int) (by omega) (by omega) 73 (by rw [Int.toNat_natCast]; exact hc))
  have HB := Lib.hid hb1
  clear c3 hs hin hout hb1 hc
  go_enter Tryz.func133, Tryz.ntmps133
  go_wp2_with (first | (go_at_call 153; refine (HS.out _).mono ?_; rintro x w' ⟨rfl, rfl⟩) | (go_at_call 155; refine (HR.out _).mono ?_; rintro x w' ⟨rfl, rfl⟩))
  refine (HN.out _).mono ?_
  rintro x W2 ⟨rfl, hb2⟩
  obtain ⟨a0, a1, a2, a3, af, alt⟩ := box4 hb2
  have HB2 := Lib.hid hb2
  clear hb2
  have s0 : ∀ v, (W2.setCell ⟨w.heap.size, 0, none⟩ v).cell? ⟨w.heap.size, 0, none⟩ = some v := fun v => World.cell?_setCell_same _ _ _ a0
  go_wp2_with fail
  refine bodyPost_ret (v := .tuple #[.agg #[.int .i64 15, .int .i64 q, .int .i64 e, .string (sub l q e)], .nilIface]) (by simp [results, Tryz.results133, go_sem, s0, a1, a2, a3]) rfl ⟨rfl, ?_⟩
  have hb2 := HB2.out
  exact (((((HB.out _).trans (hb2.mono (by simp))).setCell (Nat.le_refl _) _).setCell (Nat.le_refl _) _).setCell (Nat.le_refl _) _).setCell (Nat.le_refl _) _

set_option maxHeartbeats 3200000 in
set_option maxRecDepth 100000 in
theorem tok_c74 {w : World} {p b n cap : Nat} {l : List UInt8} (hS : Src w p b n cap l) (hn : n ≤ 4611686018427387904) (i q e : Nat) (hi : i ≤ n) (hs : Skips l i q)
    (hqe : q < e) (hen : e ≤ n) (hin : ∀ j, q < j → j < e → NameChar (ch l j)) (hout : ¬ NameChar (ch l e)) (hc : ch l q = 74) :
    Calls Tryz.prog 133 #[.pointer (some ⟨p, 0, none⟩), .int .i64 (i : Int)] w fun x w' =>
      x = .returned (.tuple #[.agg #[.int .i64 15, .int .i64 q, .int .i64 e, .string (sub l q e)], .nilIface]) ∧ Below w.heap.size w w' := by
  obtain ⟨c1, c2, c3⟩ := hS.cells
  have hb1 := fun o => (Below.refl _ w).alloc (Nat.le_refl _) o
  have HS := Lib.hid (fun o => skip_any (hS.body.below (hb1 o)) cap i q hn hi hs)
  have HN := Lib.hid (fun o => name_any (hS.below (hb1 o)) q e hn hqe hen hin hout)
  have HR := Lib.hid (fun o => runeAt_in (hS.body.below (hb1 o)) cap (q : Int) (by omega) (by omega) 74 (by rw [Int.toNat_natCast]; exact hc))
  have HB := Lib.hid hb1
  clear c3 hs hin hout hb1 hc
  go_enter Tryz.func133, Tryz.ntmps133
  go_wp2_with (first | (go_at_call 153; refine (HS.out _).mono ?_; rintro x w' ⟨rfl, rfl⟩) | (go_at_call 155; refine (HR.out _).mono ?_; rintro x w' ⟨rfl, rfl⟩))
  refine (HN.out _).mono ?_
  rintro x W2 ⟨rfl, hb2⟩
  obtain ⟨a0, a1, a2, a3, af, alt⟩ := box4 hb2
  have HB2 := Lib.hid hb2
  clear hb2
  have s0 : ∀ v, (W2.setCell ⟨w.heap.size, 0, none⟩ v).cell? ⟨w.heap.size, 0, none⟩ = some v := fun v => World.cell?_setCell_same _ _ _ a0
  go_wp2_with fail
  refine bodyPost_ret (v := .tuple #[.agg #[.int .i64 15, .int .i64 q, .int .i64 e, .string (sub l q e)], .nilIface]) (by simp [results, Tryz.results133, go_sem, s0, a1, a2, a3]) rfl ⟨rfl, ?_⟩
  have hb2 := HB2.out
  exact (((((HB.out _).trans (hb2.mono (by simp))).setCell (Nat.le_refl _) _).setCell (Nat.le_refl _) _).setCell (Nat.le_refl _) _).setCell (Nat.le_refl _) _

set_option maxHeartbeats 3200000 in
set_option maxRecDepth 100000 in
theorem tok_c75 {w : World} {p b n cap : Nat} {l : List UInt8} (hS : Src w p b n cap l) (hn : n ≤ 4611686018427387904) (i q e : Nat) (hi : i ≤ n) (hs : Skips l i q)
    (hqe : q < e) (hen : e ≤ n) (hin : ∀ j, q < j → j < e → NameChar (ch l j)) (hout : ¬ NameChar (ch l e)) (hc : ch l q = 75) :
    Calls Tryz.prog 133 #[.pointer (some ⟨p, 0, none⟩), .int .i64 (i : Int)] w fun x w' =>
      x = .returned (.tuple #[.agg #[.int .i64 15, .int .i64 q, .int .i64 e, .string (sub l q e)], .nilIface]) ∧ Below w.heap.size w w' := by
  obtain ⟨c1, c2, c3⟩ := hS.cells
  have hb1 := fun o => (Below.refl _ w).alloc (Nat.le_refl _) o
  have HS := Lib.hid (fun o => skip_any (hS.body.below (hb1 o)) cap i q hn hi hs)
  have HN := Lib.hid (fun o => name_any (hS.below (hb1 o)) q e hn hqe hen hin hout)
  have HR := Lib.hid (fun o => runeAt_in (hS.body.below (hb1 o)) cap (q : Int) (by omega) (by omega) 75 (by rw [Int.toNat_natCast]; exact hc))
  have HB := Lib.hid hb1
  clear c3 hs hin hout hb1 hc
  go_enter Tryz.func133, Tryz.ntmps133
  go_wp2_with (first | (go_at_call 153; refine (HS.out _).mono ?_; rintro x w' ⟨rfl, rfl⟩) | (go_at_call 155; refine (HR.out _).mono ?_; rintro x w' ⟨rfl, rfl⟩))
  refine (HN.out _).mono ?_
  rintro x W2 ⟨rfl, hb2⟩
  obtain ⟨a0, a1, a2, a3, af, alt⟩ := box4 hb2
  have HB2 := Lib.hid hb2
  clear hb2
  have s0 : ∀ v, (W2.setCell ⟨w.heap.size, 0, none⟩ v).cell? ⟨w.heap.size, 0, none⟩ = some v := fun v => World.cell?_setCell_same _ _ _ a0
  go_wp2_with fail
  refine bodyPost_ret (v := .tuple #[.agg #[.int .i64 15, .int .i64 q, .int .i64 e, .string (sub l q e)], .nilIface]) (by simp [results, Tryz.results133, go_sem, s0, a1, a2, a3]) rfl ⟨rfl, ?_⟩
  have hb2 := HB2.out
  exact (((((HB.out _).trans (hb2.mono (by simp))).setCell (Nat.le_refl _) _).setCell (Nat.le_refl _) _).setCell (Nat.le_refl _) _).setCell (Nat.le_refl _) _

set_option maxHeartbeats 3200000 in
set_option maxRecDepth 100000 in
theorem tok_c76 {w : World} {p b n cap : Nat} {l : List UInt8} (hS : Src w p b n cap l) (hn : n ≤ 4611686018427387904) (i q e : Nat) (hi : i ≤ n) (hs : Skips l i q)
    (hqe : q < e) (hen : e ≤ n) (hin : ∀ j, q < j → j < e → NameChar (ch l j)) (hout : ¬ NameChar (ch l e)) (hc : ch l q = 76) :
    Calls Tryz.prog 133 #[.pointer (some ⟨p, 0, none⟩), .int .i64 (i : Int)] w fun x w' =>
      x = .returned (.tuple #[.agg #[.int .i64 15, .int .i64 q, .int .i64 e, .string (sub l q e)], .nilIface]) ∧ Below w.heap.size w w' := by
  obtain ⟨c1, c2, c3⟩ := hS.cells
  have hb1 := fun o => (Below.refl _ w).alloc (Nat.le_refl _) o
  have HS := Lib.hid (fun o => skip_any (hS.body.below (hb1 o)) cap i q hn hi hs)
  have HN := Lib.hid (fun o => name_any (hS.below (hb1 o)) q e hn hqe hen hin hout)
  have HR := Lib.hid (fun o => runeAt_in (hS.body.below (hb1 o)) cap (q : Int) (by omega) (by omega) 76 (by rw [Int.toNat_natCast]; exact hc))
  have HB := Lib.hid hb1
  clear c3 hs hin hout hb1 hc
  go_enter Tryz.func133, Tryz.ntmps133
  go_wp2_with (first | (go_at_call 153; refine (HS.out _).mono ?_; rintro x w' ⟨rfl, rfl⟩) | (go_at_call 155; refine (HR.out _).mono ?_; rintro x w' ⟨rfl, rfl⟩))
  refine (HN.out _).mono ?_
  rintro x W2 ⟨rfl, hb2⟩
  obtain ⟨a0, a1, a2, a3, af, alt⟩ := box4 hb2
  have HB2 := Lib.hid hb2
  clear hb2
  have s0 : ∀ v, (W2.setCell ⟨w.heap.size, 0, none⟩ v).cell? ⟨w.heap.size, 0, none⟩ = some v := fun v => World.cell?_setCell_same _ _ _ a0
  go_wp2_with fail
  refine bodyPost_ret (v := .tuple #[.agg #[.int .i64 15, .int .i64 q, .int .i64 e, .string (sub l q e)], .nilIface]) (by simp [results, Tryz.results133, go_sem, s0, a1, a2, a3]) rfl ⟨rfl, ?_⟩
  have hb2 := HB2.out
  exact (((((HB.out _).trans (hb2.mono (by simp))).setCell (Nat.le_refl _) _).setCell (Nat.le_refl _) _).setCell (Nat.le_refl _) _).setCell (Nat.le_refl _) _

set_option maxHeartbeats 3200000 in
set_option maxRecDepth 100000 in
theorem tok_c77 {w : World} {p b n cap : Nat} {l : List UInt8} (hS : Src w p b n cap l) (hn : n ≤ 4611686018427387904) (i q e : Nat) (hi : i ≤ n) (hs : Skips l i q)
    (hqe : q < e) (hen : e ≤ n) (hin : ∀ j, q < j → j < e → NameChar (ch l j)) (hout : ¬ NameChar (ch l e)) (hc : ch l q = 77) :
    Calls Tryz.prog 133 #[.pointer (some ⟨p, 0, none⟩), .int .i64 (i : Int)] w fun x w' =>
      x = .returned (.tuple #[.agg #[.int .i64 15, .int .i64 q, .int .i64 e, .string (sub l q e)], .nilIface]) ∧ Below w.heap.size w w' := by
  obtain ⟨c1, c2, c3⟩ := hS.cells
  have hb1 := fun o => (Below.refl _ w).alloc (Nat.le_refl _) o
  have HS := Lib.hid (fun o => skip_any (hS.body.below (hb1 o)) cap i q hn hi hs)
  have HN := Lib.hid (fun o => name_any (hS.below (hb1 o)) q e hn hqe hen hin hout)
  have HR := Lib.hid (fun o => runeAt_in (hS.body.below (hb1 o)) cap (q : Int) (by omega) (by omega) 77 (by rw [Int.toNat_natCast]; exact hc))
  have HB := Lib.hid hb1
  clear c3 hs hin hout hb1 hc
  go_enter Tryz.func133, Tryz.ntmps133
  go_wp2_with (first | (go_at_call 153; refine (HS.out _).mono ?_; rintro x w' ⟨rfl, rfl⟩) | (go_at_call 155; refine (HR.out _).mono ?_; rintro x w' ⟨rfl, rfl⟩))
  refine (HN.out _).mono ?_
  rintro x W2 ⟨rfl, hb2⟩
  obtain ⟨a0, a1, a2, a3, af, alt⟩ := box4 hb2
  have HB2 := Lib.hid hb2
  clear hb2
  have s0 : ∀ v, (W2.setCell ⟨w.heap.size, 0, none⟩ v).cell? ⟨w.heap.size, 0, none⟩ = some v := fun v => World.cell?_setCell_same _ _ _ a0
  go_wp2_with fail
  refine bodyPost_ret (v := .tuple #[.agg #[.int .i64 15, .int .i64 q, .int .i64 e, .string (sub l q e)], .nilIface]) (by simp [results, Tryz.results133, go_sem, s0, a1, a2, a3]) rfl ⟨rfl, ?_⟩
  have hb2 := HB2.out
  exact (((((HB.out _).trans (hb2.mono (by simp))).setCell (Nat.le_refl _) _).setCell (Nat.le_refl _) _).setCell (Nat.le_refl _) _).setCell (Nat.le_refl _) _

set_option maxHeartbeats 3200000 in
set_option maxRecDepth 100000 in
theorem tok_c78 {w : World} {p b n cap : Nat} {l : List UInt8} (hS : Src w p b n cap l) (hn : n ≤ 4611686018427387904) (i q e : Nat) (hi : i ≤ n) (hs : Skips l i q)
    (hqe : q < e) (hen : e ≤ n) (hin : ∀ j, q < j → j < e → NameChar (ch l j)) (hout : ¬ NameChar (ch l e)) (hc : ch l q = 78) :
    Calls Tryz.prog 133 #[.pointer (some ⟨p, 0, none⟩), .int .i64 (i : Int)] w fun x w' =>
      x = .returned (.tuple #[.agg #[.int .i64 15, .int .i64 q, .int .i64 e, .string (sub l q e)], .nilIface]) ∧ Below w.heap.size w w' := by
  obtain ⟨c1, c2, c3⟩ := hS.cells
  have hb1 := fun o => (Below.refl _ w).alloc (Nat.le_refl _) o
  have HS := Lib.hid (fun o => skip_any (hS.body.below (hb1 o)) cap i q hn hi hs)
  have HN := Lib.hid (fun o => name_any (hS.below (hb1 o)) q e hn hqe hen hin hout)
  have HR := Lib.hid (fun o => runeAt_in (hS.body.below (hb1 o)) cap (q : Int) (by omega) (by omega) 78 (by rw [Int.toNat_natCast]; exact hc))
  have HB := Lib.hid hb1
  clear c3 hs hin hout hb1 hc
  go_enter Tryz.func133, Tryz.ntmps133
  go_wp2_with (first | (go_at_call 153; refine (HS.out _).mono ?_; rintro x w' ⟨rfl, rfl⟩) | (go_at_call 155; refine (HR.out _).mono ?_; rintro x w' ⟨rfl, rfl⟩))
  refine (HN.out _).mono ?_
  rintro x W2 ⟨rfl, hb2⟩
  obtain ⟨a0, a1, a2, a3, af, alt⟩ := box4 hb2
  have HB2 := Lib.hid hb2
  clear hb2
  have s0 : ∀ v, (W2.setCell ⟨w.heap.size, 0, none⟩ v).cell? ⟨w.heap.size, 0, none⟩ = some v := fun v => World.cell?_setCell_same _ _ _ a0
  go_wp2_with fail
  refine bodyPost_ret (v := .tuple #[.agg #[.int .i64 15, .int .i64 q, .int .i64 e, .string (sub l q e)], .nilIface]) (by simp [results, Tryz.results133, go_sem, s0, a1, a2, a3]) rfl ⟨rfl, ?_⟩
  have hb2 := HB2.out
  exact (((((HB.out _).trans (hb2.mono (by simp))).setCell (Nat.le_refl _) _).setCell (Nat.le_refl _) _).setCell (Nat.le_refl _) _).setCell (Nat.le_refl _) _

end Go.Proofs.YtannihddhebcpaaGreatDoor
