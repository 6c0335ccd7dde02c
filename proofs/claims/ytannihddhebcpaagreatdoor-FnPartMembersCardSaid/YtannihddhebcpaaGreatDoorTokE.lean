/- ONE TOKEN (readToken): a name, by its first letter: 110 to 122. -/
import Derived.Test.YtannihddhebcpaaGreatDoorTokA
namespace Go.Proofs.YtannihddhebcpaaGreatDoor
open Go.RowKit

set_option maxHeartbeats 3200000 in
set_option maxRecDepth 100000 in
theorem tok_c110 {w : World} {p b n cap : Nat} {l : List UInt8} (hS : Src w p b n cap l) (hn : n ≤ 4611686018427387904) (i q e : Nat) (hi : i ≤ n) (hs : Skips l i q)
    (hqe : q < e) (hen : e ≤ n) (hin : ∀ j, q < j → j < e → NameChar (ch l j)) (hout : ¬ NameChar (ch l e)) (hc : ch l q = 110) :
    Calls Tryz.prog 133 #[.pointer (some ⟨p, 0, none⟩), .int .i64 (i : Int)] w fun x w' =>
      x = .returned (.tuple #[.agg #[.int .i64 15, .int .i64 q, .int .i64 e, .string (sub l q e)], .nilIface]) ∧ Below w.heap.size w w' := by
  obtain ⟨c1, c2, c3⟩ := hS.cells
  have hb1 := fun o => (Below.refl _ w).alloc (Nat.le_refl _) o
  have HS := Lib.hid (fun o => skip_any (hS.body.below (hb1 o)) cap i q hn hi hs)
  have HN := Lib.hid (fun o => name_any (hS.below (hb1 o)) q e hn hqe hen hin hout)
  have HR := Lib.hid (fun o => runeAt_in (hS.body.below (hb1 o)) cap (q : Int) (by omega) (by omega) 110 (by rw [Int.toNat_natCast]; exact hc))
  have HB := Lib.hid hb1
  clear c3 hs hin hout hb1 hc
  go_enter Tryz.func133, Tryz.ntmps133
  go_wp2_with (first | (go_at_call 153; refine (HS.out _).mono ?_; rintro x w' ⟨rfl, rfl⟩) | (go_at_call 155; refine (HR.out _).mono ?_; rintro x w' ⟨rfl, rfl⟩))
  refine (HN.out _).mono ?_
  rintro x W2 ⟨rfl, hb2⟩
  obtain ⟨a0, a1, a2, a3, af, alt⟩ := box4 hb2
  have HB2 := Lib.hid hb2
  clear hb2
  have s0 : ∀ v, (W2.setCell ⟨w.heap.size, 0, none⟩ v).cell? ⟨w.heap.size, 0, none⟩ = some v := fun v => World.cell?_setCell_same _ _ _ a0
  go_wp2_with fail
  refine bodyPost_ret (v := .tuple #[.agg #[.int .i64 15, .int .i64 q, .int .i64 e, .string (sub l q e)], .nilIface]) (by simp [results, Tryz.results133, go_sem, s0, a1, a2, a3]) rfl ⟨rfl, ?_⟩
  have hb2 := HB2.out
  exact (((((HB.out _).trans (hb2.mono (by simp))).setCell (Nat.le_refl _) _).setCell (Nat.le_refl _) _).setCell (Nat.le_refl _) _).setCell (Nat.le_refl _) _

set_option maxHeartbeats 3200000 in
set_option maxRecDepth 100000 in
theorem tok_c111 {w : World} {p b n cap : Nat} {l : List UInt8} (hS : Src w p b n cap l) (hn : n ≤ 4611686018427387904) (i q e : Nat) (hi : i ≤ n) (hs : Skips l i q)
    (hqe : q < e) (hen : e ≤ n) (hin : ∀ j, q < j → j < e → NameChar (ch l j)) (hout : ¬ NameChar (ch l e)) (hc : ch l q = 111) :
    Calls Tryz.prog 133 #[.pointer (some ⟨p, 0, none⟩), .int .i64 (i : Int)] w fun x w' =>
      x = .returned (.tuple #[.agg #[.int .i64 15, .int .i64 q, .int .i64 e, .string (sub l q e)], .nilIface]) ∧ Below w.heap.size w w' := by
  obtain ⟨c1, c2, c3⟩ := hS.cells
  have hb1 := fun o => (Below.refl _ w).alloc (Nat.le_refl _) o
  have HS := Lib.hid (fun o => skip_any (hS.body.below (hb1 o)) cap i q hn hi hs)
  have HN := Lib.hid (fun o => name_any (hS.below (hb1 o)) q e hn hqe hen hin hout)
  have HR := Lib.hid (fun o => runeAt_in (hS.body.below (hb1 o)) cap (q : Int) (by omega) (by omega) 111 (by rw [Int.toNat_natCast]; exact hc))
  have HB := Lib.hid hb1
  clear c3 hs hin hout hb1 hc
  go_enter Tryz.func133, Tryz.ntmps133
  go_wp2_with (first | (go_at_call 153; refine (HS.out _).mono ?_; rintro x w' ⟨rfl, rfl⟩) | (go_at_call 155; refine (HR.out _).mono ?_; rintro x w' ⟨rfl, rfl⟩))
  refine (HN.out _).mono ?_
  rintro x W2 ⟨rfl, hb2⟩
  obtain ⟨a0, a1, a2, a3, af, alt⟩ := box4 hb2
  have HB2 := Lib.hid hb2
  clear hb2
  have s0 : ∀ v, (W2.setCell ⟨w.heap.size, 0, none⟩ v).cell? ⟨w.heap.size, 0, none⟩ = some v := fun v => World.cell?_setCell_same _ _ _ a0
  go_wp2_with fail
  refine bodyPost_ret (v := .tuple #[.agg #[.int .i64 15, .int .i64 q, .int .i64 e, .string (sub l q e)], .nilIface]) (by simp [results, Tryz.results133, go_sem, s0, a1, a2, a3]) rfl ⟨rfl, ?_⟩
  have hb2 := HB2.out
  exact (((((HB.out _).trans (hb2.mono (by simp))).setCell (Nat.le_refl _) _).setCell (Nat.le_refl _) _).setCell (Nat.le_refl _) _).setCell (Nat.le_refl _) _

set_option maxHeartbeats 3200000 in
set_option maxRecDepth 100000 in
theorem tok_c112 {w : World} {p b n cap : Nat} {l : List UInt8} (hS : Src w p b n cap l) (hn : n ≤ 4611686018427387904) (i q e : Nat) (hi : i ≤ n) (hs : Skips l i q)
    (hqe : q < e) (hen : e ≤ n) (hin : ∀ j, q < j → j < e → NameChar (ch l j)) (hout : ¬ NameChar (ch l e)) (hc : ch l q = 112) :
    Calls Tryz.prog 133 #[.pointer (some ⟨p, 0, none⟩), .int .i64 (i : Int)] w fun x w' =>
      x = .returned (.tuple #[.agg #[.int .i64 15, .int .i64 q, .int .i64 e, .string (sub l q e)], .nilIface]) ∧ Below w.heap.size w w' := by
  obtain ⟨c1, c2, c3⟩ := hS.cells
  have hb1 := fun o => (Below.refl _ w).alloc (Nat.le_refl _) o
  have HS := Lib.hid (fun o => skip_any (hS.body.below (hb1 o)) cap i q hn hi hs)
  have HN := Lib.hid (fun o => name_any (hS.below (hb1 o)) q e hn hqe hen hin hout)
  have HR := Lib.hid (fun o => runeAt_in (hS.body.below (hb1 o)) cap (q : Int) (by omega) (by omega) 112 (by rw [Int.toNat_natCast]; exact hc))
  have HB := Lib.hid hb1
  clear c3 hs hin hout hb1 hc
  go_enter Tryz.func133, Tryz.ntmps133
  go_wp2_with (first | (go_at_call 153; refine (HS.out _).mono ?_; rintro x w' ⟨rfl, rfl⟩) | (go_at_call 155; refine (HR.out _).mono ?_; rintro x w' ⟨rfl, rfl⟩))
  refine (HN.out _).mono ?_
  rintro x W2 ⟨rfl, hb2⟩
  obtain ⟨a0, a1, a2, a3, af, alt⟩ := box4 hb2
  have HB2 := Lib.hid hb2
  clear hb2
  have s0 : ∀ v, (W2.setCell ⟨w.heap.size, 0, none⟩ v).cell? ⟨w.heap.size, 0, none⟩ = some v := fun v => World.cell?_setCell_same _ _ _ a0
  go_wp2_with fail
  refine bodyPost_ret (v := .tuple #[.agg #[.int .i64 15, .int .i64 q, .int .i64 e, .string (sub l q e)], .nilIface]) (by simp [results, Tryz.results133, go_sem, s0, a1, a2, a3]) rfl ⟨rfl, ?_⟩
  have hb2 := HB2.out
  exact (((((HB.out _).trans (hb2.mono (by simp))).setCell (Nat.le_refl _) _).setCell (Nat.le_refl _) _).setCell (Nat.le_refl _) _).setCell (Nat.le_refl _) _

set_option maxHeartbeats 3200000 in
set_option maxRecDepth 100000 in
theorem tok_c113 {w : World} {p b n cap : Nat} {l : List UInt8} (hS : Src w p b n cap l) (hn : n ≤ 4611686018427387904) (i q e : Nat) (hi : i ≤ n) (hs : Skips l i q)
    (hqe : q < e) (hen : e ≤ n) (hin : ∀ j, q < j → j < e → NameChar (ch l j)) (hout : ¬ NameChar (ch l e)) (hc : ch l q = 113) :
    Calls Tryz.prog 133 #[.pointer (some ⟨p, 0, none⟩), .int .i64 (i : Int)] w fun x w' =>
      x = .returned (.tuple #[.agg #[.int .i64 15, .int .i64 q, .int .i64 e, .string (sub l q e)], .nilIface]) ∧ Below w.heap.size w w' := by
  obtain ⟨c1, c2, c3⟩ := hS.cells
  have hb1 := fun o => (Below.refl _ w).alloc (Nat.le_refl _) o
  have HS := Lib.hid (fun o => skip_any (hS.body.below (hb1 o)) cap i q hn hi hs)
  have HN := Lib.hid (fun o => name_any (hS.below (hb1 o)) q e hn hqe hen hin hout)
  have HR := Lib.hid (fun o => runeAt_in (hS.body.below (hb1 o)) cap (q : Int) (by omega) (by omega) 113 (by rw [Int.toNat_natCast]; exact hc))
  have HB := Lib.hid hb1
  clear c3 hs hin hout hb1 hc
  go_enter Tryz.func133, Tryz.ntmps133
  go_wp2_with (first | (go_at_call 153; refine (HS.out _).mono ?_; rintro x w' ⟨rfl, rfl⟩) | (go_at_call 155; refine (HR.out _).mono ?_; rintro x w' ⟨rfl, rfl⟩))
  refine (HN.out _).mono ?_
  rintro x W2 ⟨rfl, hb2⟩
  obtain ⟨a0, a1, a2, a3, af, alt⟩ := box4 hb2
  have HB2 := Lib.hid hb2
  clear hb2
  have s0 : ∀ v, (W2.setCell ⟨w.heap.size, 0, none⟩ v).cell? ⟨w.heap.size, 0, none⟩ = some v := fun v => World.cell?_setCell_same _ _ _ a0
  go_wp2_with fail
  refine bodyPost_ret (v := .tuple #[.agg #[.int .i64 15, .int .i64 q, .int .i64 e, .string (sub l q e)], .nilIface]) (by simp [results, Tryz.results133, go_sem, s0, a1, a2, a3]) rfl ⟨rfl, ?_⟩
  have hb2 := HB2.out
  exact (((((HB.out _).trans (hb2.mono (by simp))).setCell (Nat.le_refl _) _).setCell (Nat.le_refl _) _).setCell (Nat.le_refl _) _).setCell (Nat.le_refl _) _

set_option maxHeartbeats 3200000 in
set_option maxRecDepth 100000 in
theorem tok_c114 {w : World} {p b n cap : Nat} {l : List UInt8} (hS : Src w p b n cap l) (hn : n ≤ 4611686018427387904) (i q e : Nat) (hi : i ≤ n) (hs : Skips l i q)
    (hqe : q < e) (hen : e ≤ n) (hin : ∀ j, q < j → j < e → NameChar (ch l j)) (hout : ¬ NameChar (ch l e)) (hc : ch l q = 114) :
    Calls Tryz.prog 133 #[.pointer (some ⟨p, 0, none⟩), .int .i64 (i : Int)] w fun x w' =>
      x = .returned (.tuple #[.agg #[.int .i64 15, .int .i64 q, .int .i64 e, .string (sub l q e)], .nilIface]) ∧ Below w.heap.size w w' := by
  obtain ⟨c1, c2, c3⟩ := hS.cells
  have hb1 := fun o => (Below.refl _ w).alloc (Nat.le_refl _) o
  have HS := Lib.hid (fun o => skip_any (hS.body.below (hb1 o)) cap i q hn hi hs)
  have HN := Lib.hid (fun o => name_any (hS.below (hb1 o)) q e hn hqe hen hin hout)
  have HR := Lib.hid (fun o => runeAt_in (hS.body.below (hb1 o)) cap (q : Int) (by omega) (by omega) 114 (by rw [Int.toNat_natCast]; exact hc))
  have HB := Lib.hid hb1
  clear c3 hs hin hout hb1 hc
  go_enter Tryz.func133, Tryz.ntmps133
  go_wp2_with (first | (go_at_call 153; refine (HS.out _).mono ?_; rintro x w' ⟨rfl, rfl⟩) | (go_at_call 155; refine (HR.out _).mono ?_; rintro x w' ⟨rfl, rfl⟩))
  refine (HN.out _).mono ?_
  rintro x W2 ⟨rfl, hb2⟩
  obtain ⟨a0, a1, a2, a3, af, alt⟩ := box4 hb2
  have HB2 := Lib.hid hb2
  clear hb2
  have s0 : ∀ v, (W2.setCell ⟨w.heap.size, 0, none⟩ v).cell? ⟨w.heap.size, 0, none⟩ = some v := fun v => World.cell?_setCell_same _ _ _ a0
  go_wp2_with fail
  refine bodyPost_ret (v := .tuple #[.agg #[.int .i64 15, .int .i64 q, .int .i64 e, .string (sub l q e)], .nilIface]) (by simp [results, Tryz.results133, go_sem, s0, a1, a2, a3]) rfl ⟨rfl, ?_⟩
  have hb2 := HB2.out
  exact (((((HB.out _).trans (hb2.mono (by simp))).setCell (Nat.le_refl _) _).setCell (Nat.le_refl _) _).setCell (Nat.le_refl _) _).setCell (Nat.le_refl _) _

set_option maxHeartbeats 3200000 in
set_option maxRecDepth 100000 in
theorem tok_c115 {w : World} {p b n cap : Nat} {l : List UInt8} (hS : Src w p b n cap l) (hn : n ≤ 4611686018427387904) (i q e : Nat) (hi : i ≤ n) (hs : Skips l i q)
    (hqe : q < e) (hen : e ≤ n) (hin : ∀ j, q < j → j < e → NameChar (ch l j)) (hout : ¬ NameChar (ch l e)) (hc : ch l q = 115) :
    Calls Tryz.prog 133 #[.pointer (some ⟨p, 0, none⟩), .int .i64 (i : Int)] w fun x w' =>
      x = .returned (.tuple #[.agg #[.int .i64 15, .int .i64 q, .int .i64 e, .string (sub l q e)], .nilIface]) ∧ Below w.heap.size w w' := by
  obtain ⟨c1, c2, c3⟩ := hS.cells
  have hb1 := fun o => (Below.refl _ w).alloc (Nat.le_refl _) o
  have HS := Lib.hid (fun o => skip_any (hS.body.below (hb1 o)) cap i q hn hi hs)
  have HN := Lib.hid (fun o => name_any (hS.below (hb1 o)) q e hn hqe hen hin hout)
  have HR := Lib.hid (fun o => runeAt_in (hS.body.below (hb1 o)) cap (q : Int) (by omega) (by omega) 115 (by rw [Int.toNat_natCast]; exact hc))
  have HB := Lib.hid hb1
  clear c3 hs hin hout hb1 hc
  go_enter Tryz.func133, Tryz.ntmps133
  go_wp2_with (first | (go_at_call 153; refine (HS.out _).mono ?_; rintro x w' ⟨rfl, rfl⟩) | (go_at_call 155; refine (HR.out _).mono ?_; rintro x w' ⟨rfl, rfl⟩))
  refine (HN.out _).mono ?_
  rintro x W2 ⟨rfl, hb2⟩
  obtain ⟨a0, a1, a2, a3, af, alt⟩ := box4 hb2
  have HB2 := Lib.hid hb2
  clear hb2
  have s0 : ∀ v, (W2.setCell ⟨w.heap.size, 0, none⟩ v).cell? ⟨w.heap.size, 0, none⟩ = some v := fun v => World.cell?_setCell_same _ _ _ a0
  go_wp2_with fail
  refine bodyPost_ret (v := .tuple #[.agg #[.int .i64 15, .int .i64 q, .int .i64 e, .string (sub l q e)], .nilIface]) (by simp [results, Tryz.results133, go_sem, s0, a1, a2, a3]) rfl ⟨rfl, ?_⟩
  have hb2 := HB2.out
  exact (((((HB.out _).trans (hb2.mono (by simp))).setCell (Nat.le_refl _) _).setCell (Nat.le_refl _) _).setCell (Nat.le_refl _) _).setCell (Nat.le_refl _) _

set_option maxHeartbeats 3200000 in
set_option maxRecDepth 100000 in
theorem tok_c116 {w : World} {p b n cap : Nat} {l : List UInt8} (hS : Src w p b n cap l) (hn : n ≤ 4611686018427387904) (i q e : Nat) (hi : i ≤ n) (hs : Skips l i q)
    (hqe : q < e) (hen : e ≤ n) (hin : ∀ j, q < j → j < e → NameChar (ch l j)) (hout : ¬ NameChar (ch l e)) (hc : ch l q = 116) :
    Calls Tryz.prog 133 #[.pointer (some ⟨p, 0, none⟩), .int .i64 (i : Int)] w fun x w' =>
      x = .returned (.tuple #[.agg #[.int .i64 15, .int .i64 q, .int .i64 e, .string (sub l q e)], .nilIface]) ∧ Below w.heap.size w w' := by
  obtain ⟨c1, c2, c3⟩ := hS.cells
  have hb1 := fun o => (Below.refl _ w).alloc (Nat.le_refl _) o
  have HS := Lib.hid (fun o => skip_any (hS.body.below (hb1 o)) cap i q hn hi hs)
  have HN := Lib.hid (fun o => name_any (hS.below (hb1 o)) q e hn hqe hen hin hout)
  have HR := Lib.hid (fun o => runeAt_in (hS.body.below (hb1 o)) cap (q : Int) (by omega) (by omega) 116 (by rw [Int.toNat_natCast]; exact hc))
  have HB := Lib.hid hb1
  clear c3 hs hin hout hb1 hc
  go_enter Tryz.func133, Tryz.ntmps133
  go_wp2_with (first | (go_at_call 153; refine (HS.out _).mono ?_; rintro x w' ⟨rfl, rfl⟩) | (go_at_call 155; refine (HR.out _).mono ?_; rintro x w' ⟨rfl, rfl⟩))
  refine (HN.out _).mono ?_
  rintro x W2 ⟨rfl, hb2⟩
  obtain ⟨a0, a1, a2, a3, af, alt⟩ := box4 hb2
  have HB2 := Lib.hid hb2
  clear hb2
  have s0 : ∀ v, (W2.setCell ⟨w.heap.size, 0, none⟩ v).cell? ⟨w.heap.size, 0, none⟩ = some v := fun v => World.cell?_setCell_same _ _ _ a0
  go_wp2_with fail
  refine bodyPost_ret (v := .tuple #[.agg #[.int .i64 15, .int .i64 q, .int .i64 e, .string (sub l q e)], .nilIface]) (by simp [results, Tryz.results133, go_sem, s0, a1, a2, a3]) rfl ⟨rfl, ?_⟩
  have hb2 := HB2.out
  exact (((((HB.out _).trans (hb2.mono (by simp))).setCell (Nat.le_refl _) _).setCell (Nat.le_refl _) _).setCell (Nat.le_refl _) _).setCell (Nat.le_refl _) _

set_option maxHeartbeats 3200000 in
set_option maxRecDepth 100000 in
theorem tok_c117 {w : World} {p b n cap : Nat} {l : List UInt8} (hS : Src w p b n cap l) (hn : n ≤ 4611686018427387904) (i q e : Nat) (hi : i ≤ n) (hs : Skips l i q)
    (hqe : q < e) (hen : e ≤ n) (hin : ∀ j, q < j → j < e → NameChar (ch l j)) (hout : ¬ NameChar (ch l e)) (hc : ch l q = 117) :
    Calls Tryz.prog 133 #[.pointer (some ⟨p, 0, none⟩), .int .i64 (i : Int)] w fun x w' =>
      x = .returned (.tuple #[.agg #[.int .i64 15, .int .i64 q, .int .i64 e, .string (sub l q e)], .nilIface]) ∧ Below w.heap.size w w' := by
  obtain ⟨c1, c2, c3⟩ := hS.cells
  have hb1 := fun o => (Below.refl _ w).alloc (Nat.le_refl _) o
  have HS := Lib.hid (fun o => skip_any (hS.body.below (hb1 o)) cap i q hn hi hs)
  have HN := Lib.hid (fun o => name_any (hS.below (hb1 o)) q e hn hqe hen hin hout)
  have HR := Lib.hid (fun o => runeAt_in (hS.body.below (hb1 o)) cap (q : Int) (by omega) (by omega) 117 (by rw [Int.toNat_natCast]; exact hc))
  have HB := Lib.hid hb1
  clear c3 hs hin hout hb1 hc
  go_enter Tryz.func133, Tryz.ntmps133
  go_wp2_with (first | (go_at_call 153; refine (HS.out _).mono ?_; rintro x w' ⟨rfl, rfl⟩) | (go_at_call 155; refine (HR.out _).mono ?_; rintro x w' ⟨rfl, rfl⟩))
  refine (HN.out _).mono ?_
  rintro x W2 ⟨rfl, hb2⟩
  obtain ⟨a0, a1, a2, a3, af, alt⟩ := box4 hb2
  have HB2 := Lib.hid hb2
  clear hb2
  have s0 : ∀ v, (W2.setCell ⟨w.heap.size, 0, none⟩ v).cell? ⟨w.heap.size, 0, none⟩ = some v := fun v => World.cell?_setCell_same _ _ _ a0
  go_wp2_with fail
  refine bodyPost_ret (v := .tuple #[.agg #[.int .i64 15, .int .i64 q, .int .i64 e, .string (sub l q e)], .nilIface]) (by simp [results, Tryz.results133, go_sem, s0, a1, a2, a3]) rfl ⟨rfl, ?_⟩
  have hb2 := HB2.out
  exact (((((HB.out _).trans (hb2.mono (by simp))).setCell (Nat.le_refl _) _).setCell (Nat.le_refl _) _).setCell (Nat.le_refl _) _).setCell (Nat.le_refl _) _

set_option maxHeartbeats 3200000 in
set_option maxRecDepth 100000 in
theorem tok_c118 {w : World} {p b n cap : Nat} {l : List UInt8} (hS : Src w p b n cap l) (hn : n ≤ 4611686018427387904) (i q e : Nat) (hi : i ≤ n) (hs : Skips l i q)
    (hqe : q < e) (hen : e ≤ n) (hin : ∀ j, q < j → j < e → NameChar (ch l j)) (hout : ¬ NameChar (ch l e)) (hc : ch l q = 118) :
    Calls Tryz.prog 133 #[.pointer (some ⟨p, 0, none⟩), .int .i64 (i : Int)] w fun x w' =>
      x = .returned (.tuple #[.agg #[.int .i64 15, .int .i64 q, .int .i64 e, .string (sub l q e)], .nilIface]) ∧ Below w.heap.size w w' := by
  obtain ⟨c1, c2, c3⟩ := hS.cells
  have hb1 := fun o => (Below.refl _ w).alloc (Nat.le_refl _) o
  have HS := Lib.hid (fun o => skip_any (hS.body.below (hb1 o)) cap i q hn hi hs)
  have HN := Lib.hid (fun o => name_any (hS.below (hb1 o)) q e hn hqe hen hin hout)
  have HR := Lib.hid (fun o => runeAt_in (hS.body.below (hb1 o)) cap (q : Int) (by omega) (by omega) 118 (by rw [Int.toNat_natCast]; exact hc))
  have HB := Lib.hid hb1
  clear c3 hs hin hout hb1 hc
  go_enter Tryz.func133, Tryz.ntmps133
  go_wp2_with (first | (go_at_call 153; refine (HS.out _).mono ?_; rintro x w' ⟨rfl, rfl⟩) | (go_at_call 155; refine (HR.out _).mono ?_; rintro x w' ⟨rfl, rfl⟩))
  refine (HN.out _).mono ?_
  rintro x W2 ⟨rfl, hb2⟩
  obtain ⟨a0, a1, a2, a3, af, alt⟩ := box4 hb2
  have HB2 := Lib.hid hb2
  clear hb2
  have s0 : ∀ v, (W2.setCell ⟨w.heap.size, 0, none⟩ v).cell? ⟨w.heap.size, 0, none⟩ = some v := fun v => World.cell?_setCell_same _ _ _ a0
  go_wp2_with fail
  refine bodyPost_ret (v := .tuple #[.agg #[.int .i64 15, .int .i64 q, .int .i64 e, .string (sub l q e)], .nilIface]) (by simp [results, Tryz.results133, go_sem, s0, a1, a2, a3]) rfl ⟨rfl, ?_⟩
  have hb2 := HB2.out
  exact (((((HB.out _).trans (hb2.mono (by simp))).setCell (Nat.le_refl _) _).setCell (Nat.le_refl _) _).setCell (Nat.le_refl _) _).setCell (Nat.le_refl _) _

set_option maxHeartbeats 3200000 in
set_option maxRecDepth 100000 in
theorem tok_c119 {w : World} {p b n cap : Nat} {l : List UInt8} (hS : Src w p b n cap l) (hn : n ≤ 4611686018427387904) (i q e : Nat) (hi : i ≤ n) (hs : Skips l i q)
    (hqe : q < e) (hen : e ≤ n) (hin : ∀ j, q < j → j < e → NameChar (ch l j)) (hout : ¬ NameChar (ch l e)) (hc : ch l q = 119) :
    Calls Tryz.prog 133 #[.pointer (some ⟨p, 0, none⟩), .int .i64 (i : Int)] w fun x w' =>
      x = .returned (.tuple #[.agg #[.int .i64 15, .int .i64 q, .int .i64 e, .string (sub l q e)], .nilIface]) ∧ Below w.heap.size w w' := by
  obtain ⟨c1, c2, c3⟩ := hS.cells
  have hb1 := fun o => (Below.refl _ w).alloc (Nat.le_refl _) o
  have HS := Lib.hid (fun o => skip_any (hS.body.below (hb1 o)) cap i q hn hi hs)
  have HN := Lib.hid (fun o => name_any (hS.below (hb1 o)) q e hn hqe hen hin hout)
  have HR := Lib.hid (fun o => runeAt_in (hS.body.below (hb1 o)) cap (q : Int) (by omega) (by omega) 119 (by rw [Int.toNat_natCast]; exact hc))
  have HB := Lib.hid hb1
  clear c3 hs hin hout hb1 hc
  go_enter Tryz.func133, Tryz.ntmps133
  go_wp2_with (first | (go_at_call 153; refine (HS.out _).mono ?_; rintro x w' ⟨rfl, rfl⟩) | (go_at_call 155; refine (HR.out _).mono ?_; rintro x w' ⟨rfl, rfl⟩))
  refine (HN.out _).mono ?_
  rintro x W2 ⟨rfl, hb2⟩
  obtain ⟨a0, a1, a2, a3, af, alt⟩ := box4 hb2
  have HB2 := Lib.hid hb2
  clear hb2
  have s0 : ∀ v, (W2.setCell ⟨w.heap.size, 0, none⟩ v).cell? ⟨w.heap.size, 0, none⟩ = some v := fun v => World.cell?_setCell_same _ _ _ a0
  go_wp2_with fail
  refine bodyPost_ret (v := .tuple #[.agg #[.int .i64 15, .int .i64 q, .int .i64 e, .string (sub l q e)], .nilIface]) (by simp [results, Tryz.results133, go_sem, s0, a1, a2, a3]) rfl ⟨rfl, ?_⟩
  have hb2 := HB2.out
  exact (((((HB.out _).trans (hb2.mono (by simp))).setCell (Nat.le_refl _) _).setCell (Nat.le_refl _) _).setCell (Nat.le_refl _) _).setCell (Nat.le_refl _) _

set_option maxHeartbeats 3200000 in
set_option maxRecDepth 100000 in
theorem tok_c120 {w : World} {p b n cap : Nat} {l : List UInt8} (hS : Src w p b n cap l) (hn : n ≤ 4611686018427387904) (i q e : Nat) (hi : i ≤ n) (hs : Skips l i q)
    (hqe : q < e) (hen : e ≤ n) (hin : ∀ j, q < j → j < e → NameChar (ch l j)) (hout : ¬ NameChar (ch l e)) (hc : ch l q = 120) :
    Calls Tryz.prog 133 #[.pointer (some ⟨p, 0, none⟩), .int .i64 (i : Int)] w fun x w' =>
      x = .returned (.tuple #[.agg #[.int .i64 15, .int .i64 q, .int .i64 e, .string (sub l q e)], .nilIface]) ∧ Below w.heap.size w w' := by
  obtain ⟨c1, c2, c3⟩ := hS.cells
  have hb1 := fun o => (Below.refl _ w).alloc (Nat.le_refl _) o
  have HS := Lib.hid (fun o => skip_any (hS.body.below (hb1 o)) cap i q hn hi hs)
  have HN := Lib.hid (fun o => name_any (hS.below (hb1 o)) q e hn hqe hen hin hout)
  have HR := Lib.hid (fun o => runeAt_in (hS.body.below (hb1 o)) cap (q : Int) (by omega) (by omega) 120 (by rw [Int.toNat_natCast]; exact hc))
  have HB := Lib.hid hb1
  clear c3 hs hin hout hb1 hc
  go_enter Tryz.func133, Tryz.ntmps133
  go_wp2_with (first | (go_at_call 153; refine (HS.out _).mono ?_; rintro x w' ⟨rfl, rfl⟩) | (go_at_call 155; refine (HR.out _).mono ?_; rintro x w' ⟨rfl, rfl⟩))
  refine (HN.out _).mono ?_
  rintro x W2 ⟨rfl, hb2⟩
  obtain ⟨a0, a1, a2, a3, af, alt⟩ := box4 hb2
  have HB2 := Lib.hid hb2
  clear hb2
  have s0 : ∀ v, (W2.setCell ⟨w.heap.size, 0, none⟩ v).cell? ⟨w.heap.size, 0, none⟩ = some v := fun v => World.cell?_setCell_same _ _ _ a0
  go_wp2_with fail
  refine bodyPost_ret (v := .tuple #[.agg #[.int .i64 15, .int .i64 q, .int .i64 e, .string (sub l q e)], .nilIface]) (by simp [results, Tryz.results133, go_sem, s0, a1, a2, a3]) rfl ⟨rfl, ?_⟩
  have hb2 := HB2.out
  exact (((((HB.out _).trans (hb2.mono (by simp))).setCell (Nat.le_refl _) _).setCell (Nat.le_refl _) _).setCell (Nat.le_refl _) _).setCell (Nat.le_refl _) _

set_option maxHeartbeats 3200000 in
set_option maxRecDepth 100000 in
theorem tok_c121 {w : World} {p b n cap : Nat} {l : List UInt8} (hS : Src w p b n cap l) (hn : n ≤ 4611686018427387904) (i q e : Nat) (hi : i ≤ n) (hs : Skips l i q)
    (hqe : q < e) (hen : e ≤ n) (hin : ∀ j, q < j → j < e → NameChar (ch l j)) (hout : ¬ NameChar (ch l e)) (hc : ch l q = 121) :
    Calls Tryz.prog 133 #[.pointer (some ⟨p, 0, none⟩), .int .i64 (i : Int)] w fun x w' =>
      x = .returned (.tuple #[.agg #[.int .i64 15, .int .i64 q, .int .i64 e, .string (sub l q e)], .nilIface]) ∧ Below w.heap.size w w' := by
  obtain ⟨c1, c2, c3⟩ := hS.cells
  have hb1 := fun o => (Below.refl _ w).alloc (Nat.le_refl _) o
  have HS := Lib.hid (fun o => skip_any (hS.body.below (hb1 o)) cap i q hn hi hs)
  have HN := Lib.hid (fun o => name_any (hS.below (hb1 o)) q e hn hqe hen hin hout)
  have HR := Lib.hid (fun o => runeAt_in (hS.body.below (hb1 o)) cap (q : Int) (by omega) (by omega) 121 (by rw [Int.toNat_natCast]; exact hc))
  have HB := Lib.hid hb1
  clear c3 hs hin hout hb1 hc
  go_enter Tryz.func133, Tryz.ntmps133
  go_wp2_with (first | (go_at_call 153; refine (HS.out _).mono ?_; rintro x w' ⟨rfl, rfl⟩) | (go_at_call 155; refine (HR.out _).mono ?_; rintro x w' ⟨rfl, rfl⟩))
  refine (HN.out _).mono ?_
  rintro x W2 ⟨rfl, hb2⟩
  obtain ⟨a0, a1, a2, a3, af, alt⟩ := box4 hb2
  have HB2 := Lib.hid hb2
  clear hb2
  have s0 : ∀ v, (W2.setCell ⟨w.heap.size, 0, none⟩ v).cell? ⟨w.heap.size, 0, none⟩ = some v := fun v => World.cell?_setCell_same _ _ _ a0
  go_wp2_with fail
  refine bodyPost_ret (v := .tuple #[.agg #[.int .i64 15, .int .i64 q, .int .i64 e, .string (sub l q e)], .nilIface]) (by simp [results, Tryz.results133, go_sem, s0, a1, a2, a3]) rfl ⟨rfl, ?_⟩
  have hb2 := HB2.out
  exact (((((HB.out _).trans (hb2.mono (by simp))).setCell (Nat.le_refl _) _).setCell (Nat.le_refl _) _).setCell (Nat.le_refl _) _).setCell (Nat.le_refl _) _

set_option maxHeartbeats 3200000 in
set_option maxRecDepth 100000 in
theorem tok_c122 {w : World} {p b n cap : Nat} {l : List UInt8} (hS : Src w p b n cap l) (hn : n ≤ 4611686018427387904) (i q e : Nat) (hi : i ≤ n) (hs : Skips l i q)
    (hqe : q < e) (hen : e ≤ n) (hin : ∀ j, q < j → j < e → NameChar (ch l j)) (hout : ¬ NameChar (ch l e)) (hc : ch l q = 122) :
    Calls Tryz.prog 133 #[.pointer (some ⟨p, 0, none⟩), .int .i64 (i : Int)] w fun x w' =>
      x = .returned (.tuple #[.agg #[.int .i64 15, .int .i64 q, .int .i64 e, .string (sub l q e)], .nilIface]) ∧ Below w.heap.size w w' := by
  obtain ⟨c1, c2, c3⟩ := hS.cells
  have hb1 := fun o => (Below.refl _ w).alloc (Nat.le_refl _) o
  have HS := Lib.hid (fun o => skip_any (hS.body.below (hb1 o)) cap i q hn hi hs)
  have HN := Lib.hid (fun o => name_any (hS.below (hb1 o)) q e hn hqe hen hin hout)
  have HR := Lib.hid (fun o => runeAt_in (hS.body.below (hb1 o)) cap (q : Int) (by omega) (by omega) 122 (by rw [Int.toNat_natCast]; exact hc))
  have HB := Lib.hid hb1
  clear c3 hs hin hout hb1 hc
  go_enter Tryz.func133, Tryz.ntmps133
  go_wp2_with (first | (go_at_call 153; refine (HS.out _).mono ?_; rintro x w' ⟨rfl, rfl⟩) | (go_at_call 155; refine (HR.out _).mono ?_; rintro x w' ⟨rfl, rfl⟩))
  refine (HN.out _).mono ?_
  rintro x W2 ⟨rfl, hb2⟩
  obtain ⟨a0, a1, a2, a3, af, alt⟩ := box4 hb2
  have HB2 := Lib.hid hb2
  clear hb2
  have s0 : ∀ v, (W2.setCell ⟨w.heap.size, 0, none⟩ v).cell? ⟨w.heap.size, 0, none⟩ = some v := fun v => World.cell?_setCell_same _ _ _ a0
  go_wp2_with fail
  refine bodyPost_ret (v := .tuple #[.agg #[.int .i64 15, .int .i64 q, .int .i64 e, .string (sub l q e)], .nilIface]) (by simp [results, Tryz.results133, go_sem, s0, a1, a2, a3]) rfl ⟨rfl, ?_⟩
  have hb2 := HB2.out
  exact (((((HB.out _).trans (hb2.mono (by simp))).setCell (Nat.le_refl _) _).setCell (Nat.le_refl _) _).setCell (Nat.le_refl _) _).setCell (Nat.le_refl _) _

end Go.Proofs.YtannihddhebcpaaGreatDoor
