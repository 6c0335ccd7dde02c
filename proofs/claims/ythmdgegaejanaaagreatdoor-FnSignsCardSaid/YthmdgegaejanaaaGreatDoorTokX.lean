/- ONE TOKEN (readToken): what is refused at once. -/
import Derived.Test.YthmdgegaejanaaaGreatDoorTokL
namespace Go.Proofs.YthmdgegaejanaaaGreatDoor
open Go.RowKit

set_option maxHeartbeats 3200000 in
set_option maxRecDepth 100000 in
theorem tok_x37 {w : World} {p b n cap : Nat} {l : List UInt8} (hS : Src w p b n cap l) (hn : n ≤ 4611686018427387904) (i q : Nat) (hi : i ≤ n) (hs : Skips l i q) (he : NoEnds l) (hc : ch l q = 37) :
    Calls Tryz.prog 23 #[.pointer (some ⟨p, 0, none⟩), .int .i64 (i : Int)] w fun x w' => IsErr x ∧ Below w.heap.size w w' := by
  obtain ⟨c1, c2, c3⟩ := hS.cells
  have hqn : q < n := by have := ch_lt (l := l) (i := q) (by omega); rw [hS.body.len] at this; exact this
  have hb1 := fun o => (Below.refl _ w).alloc (Nat.le_refl _) o
  have HS := Lib.hid (fun o => skip_any (hS.body.below (hb1 o)) cap i q hn hi hs)
  have HR := Lib.hid (fun o => runeAt_in (hS.body.below (hb1 o)) cap (q : Int) (by omega) (by omega) 37 (by rw [Int.toNat_natCast]; exact hc))
  have HN := Lib.hid (fun o d => syntaxError_any (hS.below (hb1 o)) he hn (q : Int) (by omega) (by omega) d)
  have HB := Lib.hid hb1
  clear c3 hs hb1 hc
  go_enter Tryz.func23, Tryz.ntmps23
  go_wp2_with (first | (go_at_call 25; refine (HS.out _).mono ?_; rintro x w' ⟨rfl, rfl⟩) | (go_at_call 27; refine (HR.out _).mono ?_; rintro x w' ⟨rfl, rfl⟩))
  refine (HN.out _ _).mono ?_
  rintro x W2 ⟨⟨aerr, rfl⟩, hb2⟩
  obtain ⟨a0, a1, a2, a3, af, alt⟩ := box4 hb2
  have HB2 := Lib.hid hb2
  clear hb2
  have s0 : ∀ v, (W2.setCell ⟨w.heap.size, 0, none⟩ v).cell? ⟨w.heap.size, 0, none⟩ = some v := fun v => World.cell?_setCell_same _ _ _ a0
  go_wp2_with fail
  refine bodyPost_ret (v := .tuple #[.agg #[.int .i64 0, .int .i64 0, .int .i64 0, .string ⟨#[]⟩], .iface 62 (.pointer (some aerr))]) (by simp [results, Tryz.results23, go_sem, s0, a1, a2, a3]) rfl ⟨⟨_, rfl⟩, ?_⟩
  have hb2 := HB2.out
  exact (((((HB.out _).trans (hb2.mono (by simp))).setCell (Nat.le_refl _) _).setCell (Nat.le_refl _) _).setCell (Nat.le_refl _) _).setCell (Nat.le_refl _) _

set_option maxHeartbeats 3200000 in
set_option maxRecDepth 100000 in
theorem tok_x39 {w : World} {p b n cap : Nat} {l : List UInt8} (hS : Src w p b n cap l) (hn : n ≤ 4611686018427387904) (i q : Nat) (hi : i ≤ n) (hs : Skips l i q) (he : NoEnds l) (hc : ch l q = 39) :
    Calls Tryz.prog 23 #[.pointer (some ⟨p, 0, none⟩), .int .i64 (i : Int)] w fun x w' => IsErr x ∧ Below w.heap.size w w' := by
  obtain ⟨c1, c2, c3⟩ := hS.cells
  have hqn : q < n := by have := ch_lt (l := l) (i := q) (by omega); rw [hS.body.len] at this; exact this
  have hb1 := fun o => (Below.refl _ w).alloc (Nat.le_refl _) o
  have HS := Lib.hid (fun o => skip_any (hS.body.below (hb1 o)) cap i q hn hi hs)
  have HR := Lib.hid (fun o => runeAt_in (hS.body.below (hb1 o)) cap (q : Int) (by omega) (by omega) 39 (by rw [Int.toNat_natCast]; exact hc))
  have HN := Lib.hid (fun o d => syntaxError_any (hS.below (hb1 o)) he hn (q : Int) (by omega) (by omega) d)
  have HB := Lib.hid hb1
  clear c3 hs hb1 hc
  go_enter Tryz.func23, Tryz.ntmps23
  go_wp2_with (first | (go_at_call 25; refine (HS.out _).mono ?_; rintro x w' ⟨rfl, rfl⟩) | (go_at_call 27; refine (HR.out _).mono ?_; rintro x w' ⟨rfl, rfl⟩))
  refine (HN.out _ _).mono ?_
  rintro x W2 ⟨⟨aerr, rfl⟩, hb2⟩
  obtain ⟨a0, a1, a2, a3, af, alt⟩ := box4 hb2
  have HB2 := Lib.hid hb2
  clear hb2
  have s0 : ∀ v, (W2.setCell ⟨w.heap.size, 0, none⟩ v).cell? ⟨w.heap.size, 0, none⟩ = some v := fun v => World.cell?_setCell_same _ _ _ a0
  go_wp2_with fail
  refine bodyPost_ret (v := .tuple #[.agg #[.int .i64 0, .int .i64 0, .int .i64 0, .string ⟨#[]⟩], .iface 62 (.pointer (some aerr))]) (by simp [results, Tryz.results23, go_sem, s0, a1, a2, a3]) rfl ⟨⟨_, rfl⟩, ?_⟩
  have hb2 := HB2.out
  exact (((((HB.out _).trans (hb2.mono (by simp))).setCell (Nat.le_refl _) _).setCell (Nat.le_refl _) _).setCell (Nat.le_refl _) _).setCell (Nat.le_refl _) _

set_option maxHeartbeats 3200000 in
set_option maxRecDepth 100000 in
theorem tok_x42 {w : World} {p b n cap : Nat} {l : List UInt8} (hS : Src w p b n cap l) (hn : n ≤ 4611686018427387904) (i q : Nat) (hi : i ≤ n) (hs : Skips l i q) (he : NoEnds l) (hc : ch l q = 42) :
    Calls Tryz.prog 23 #[.pointer (some ⟨p, 0, none⟩), .int .i64 (i : Int)] w fun x w' => IsErr x ∧ Below w.heap.size w w' := by
  obtain ⟨c1, c2, c3⟩ := hS.cells
  have hqn : q < n := by have := ch_lt (l := l) (i := q) (by omega); rw [hS.body.len] at this; exact this
  have hb1 := fun o => (Below.refl _ w).alloc (Nat.le_refl _) o
  have HS := Lib.hid (fun o => skip_any (hS.body.below (hb1 o)) cap i q hn hi hs)
  have HR := Lib.hid (fun o => runeAt_in (hS.body.below (hb1 o)) cap (q : Int) (by omega) (by omega) 42 (by rw [Int.toNat_natCast]; exact hc))
  have HN := Lib.hid (fun o d => syntaxError_any (hS.below (hb1 o)) he hn (q : Int) (by omega) (by omega) d)
  have HB := Lib.hid hb1
  clear c3 hs hb1 hc
  go_enter Tryz.func23, Tryz.ntmps23
  go_wp2_with (first | (go_at_call 25; refine (HS.out _).mono ?_; rintro x w' ⟨rfl, rfl⟩) | (go_at_call 27; refine (HR.out _).mono ?_; rintro x w' ⟨rfl, rfl⟩))
  refine (HN.out _ _).mono ?_
  rintro x W2 ⟨⟨aerr, rfl⟩, hb2⟩
  obtain ⟨a0, a1, a2, a3, af, alt⟩ := box4 hb2
  have HB2 := Lib.hid hb2
  clear hb2
  have s0 : ∀ v, (W2.setCell ⟨w.heap.size, 0, none⟩ v).cell? ⟨w.heap.size, 0, none⟩ = some v := fun v => World.cell?_setCell_same _ _ _ a0
  go_wp2_with fail
  refine bodyPost_ret (v := .tuple #[.agg #[.int .i64 0, .int .i64 0, .int .i64 0, .string ⟨#[]⟩], .iface 62 (.pointer (some aerr))]) (by simp [results, Tryz.results23, go_sem, s0, a1, a2, a3]) rfl ⟨⟨_, rfl⟩, ?_⟩
  have hb2 := HB2.out
  exact (((((HB.out _).trans (hb2.mono (by simp))).setCell (Nat.le_refl _) _).setCell (Nat.le_refl _) _).setCell (Nat.le_refl _) _).setCell (Nat.le_refl _) _

set_option maxHeartbeats 3200000 in
set_option maxRecDepth 100000 in
theorem tok_x43 {w : World} {p b n cap : Nat} {l : List UInt8} (hS : Src w p b n cap l) (hn : n ≤ 4611686018427387904) (i q : Nat) (hi : i ≤ n) (hs : Skips l i q) (he : NoEnds l) (hc : ch l q = 43) :
    Calls Tryz.prog 23 #[.pointer (some ⟨p, 0, none⟩), .int .i64 (i : Int)] w fun x w' => IsErr x ∧ Below w.heap.size w w' := by
  obtain ⟨c1, c2, c3⟩ := hS.cells
  have hqn : q < n := by have := ch_lt (l := l) (i := q) (by omega); rw [hS.body.len] at this; exact this
  have hb1 := fun o => (Below.refl _ w).alloc (Nat.le_refl _) o
  have HS := Lib.hid (fun o => skip_any (hS.body.below (hb1 o)) cap i q hn hi hs)
  have HR := Lib.hid (fun o => runeAt_in (hS.body.below (hb1 o)) cap (q : Int) (by omega) (by omega) 43 (by rw [Int.toNat_natCast]; exact hc))
  have HN := Lib.hid (fun o d => syntaxError_any (hS.below (hb1 o)) he hn (q : Int) (by omega) (by omega) d)
  have HB := Lib.hid hb1
  clear c3 hs hb1 hc
  go_enter Tryz.func23, Tryz.ntmps23
  go_wp2_with (first | (go_at_call 25; refine (HS.out _).mono ?_; rintro x w' ⟨rfl, rfl⟩) | (go_at_call 27; refine (HR.out _).mono ?_; rintro x w' ⟨rfl, rfl⟩))
  refine (HN.out _ _).mono ?_
  rintro x W2 ⟨⟨aerr, rfl⟩, hb2⟩
  obtain ⟨a0, a1, a2, a3, af, alt⟩ := box4 hb2
  have HB2 := Lib.hid hb2
  clear hb2
  have s0 : ∀ v, (W2.setCell ⟨w.heap.size, 0, none⟩ v).cell? ⟨w.heap.size, 0, none⟩ = some v := fun v => World.cell?_setCell_same _ _ _ a0
  go_wp2_with fail
  refine bodyPost_ret (v := .tuple #[.agg #[.int .i64 0, .int .i64 0, .int .i64 0, .string ⟨#[]⟩], .iface 62 (.pointer (some aerr))]) (by simp [results, Tryz.results23, go_sem, s0, a1, a2, a3]) rfl ⟨⟨_, rfl⟩, ?_⟩
  have hb2 := HB2.out
  exact (((((HB.out _).trans (hb2.mono (by simp))).setCell (Nat.le_refl _) _).setCell (Nat.le_refl _) _).setCell (Nat.le_refl _) _).setCell (Nat.le_refl _) _

set_option maxHeartbeats 3200000 in
set_option maxRecDepth 100000 in
theorem tok_x47 {w : World} {p b n cap : Nat} {l : List UInt8} (hS : Src w p b n cap l) (hn : n ≤ 4611686018427387904) (i q : Nat) (hi : i ≤ n) (hs : Skips l i q) (he : NoEnds l) (hc : ch l q = 47) :
    Calls Tryz.prog 23 #[.pointer (some ⟨p, 0, none⟩), .int .i64 (i : Int)] w fun x w' => IsErr x ∧ Below w.heap.size w w' := by
  obtain ⟨c1, c2, c3⟩ := hS.cells
  have hqn : q < n := by have := ch_lt (l := l) (i := q) (by omega); rw [hS.body.len] at this; exact this
  have hb1 := fun o => (Below.refl _ w).alloc (Nat.le_refl _) o
  have HS := Lib.hid (fun o => skip_any (hS.body.below (hb1 o)) cap i q hn hi hs)
  have HR := Lib.hid (fun o => runeAt_in (hS.body.below (hb1 o)) cap (q : Int) (by omega) (by omega) 47 (by rw [Int.toNat_natCast]; exact hc))
  have HN := Lib.hid (fun o d => syntaxError_any (hS.below (hb1 o)) he hn (q : Int) (by omega) (by omega) d)
  have HB := Lib.hid hb1
  clear c3 hs hb1 hc
  go_enter Tryz.func23, Tryz.ntmps23
  go_wp2_with (first | (go_at_call 25; refine (HS.out _).mono ?_; rintro x w' ⟨rfl, rfl⟩) | (go_at_call 27; refine (HR.out _).mono ?_; rintro x w' ⟨rfl, rfl⟩))
  refine (HN.out _ _).mono ?_
  rintro x W2 ⟨⟨aerr, rfl⟩, hb2⟩
  obtain ⟨a0, a1, a2, a3, af, alt⟩ := box4 hb2
  have HB2 := Lib.hid hb2
  clear hb2
  have s0 : ∀ v, (W2.setCell ⟨w.heap.size, 0, none⟩ v).cell? ⟨w.heap.size, 0, none⟩ = some v := fun v => World.cell?_setCell_same _ _ _ a0
  go_wp2_with fail
  refine bodyPost_ret (v := .tuple #[.agg #[.int .i64 0, .int .i64 0, .int .i64 0, .string ⟨#[]⟩], .iface 62 (.pointer (some aerr))]) (by simp [results, Tryz.results23, go_sem, s0, a1, a2, a3]) rfl ⟨⟨_, rfl⟩, ?_⟩
  have hb2 := HB2.out
  exact (((((HB.out _).trans (hb2.mono (by simp))).setCell (Nat.le_refl _) _).setCell (Nat.le_refl _) _).setCell (Nat.le_refl _) _).setCell (Nat.le_refl _) _

set_option maxHeartbeats 3200000 in
set_option maxRecDepth 100000 in
theorem tok_x59 {w : World} {p b n cap : Nat} {l : List UInt8} (hS : Src w p b n cap l) (hn : n ≤ 4611686018427387904) (i q : Nat) (hi : i ≤ n) (hs : Skips l i q) (he : NoEnds l) (hc : ch l q = 59) :
    Calls Tryz.prog 23 #[.pointer (some ⟨p, 0, none⟩), .int .i64 (i : Int)] w fun x w' => IsErr x ∧ Below w.heap.size w w' := by
  obtain ⟨c1, c2, c3⟩ := hS.cells
  have hqn : q < n := by have := ch_lt (l := l) (i := q) (by omega); rw [hS.body.len] at this; exact this
  have hb1 := fun o => (Below.refl _ w).alloc (Nat.le_refl _) o
  have HS := Lib.hid (fun o => skip_any (hS.body.below (hb1 o)) cap i q hn hi hs)
  have HR := Lib.hid (fun o => runeAt_in (hS.body.below (hb1 o)) cap (q : Int) (by omega) (by omega) 59 (by rw [Int.toNat_natCast]; exact hc))
  have HN := Lib.hid (fun o d => syntaxError_any (hS.below (hb1 o)) he hn (q : Int) (by omega) (by omega) d)
  have HB := Lib.hid hb1
  clear c3 hs hb1 hc
  go_enter Tryz.func23, Tryz.ntmps23
  go_wp2_with (first | (go_at_call 25; refine (HS.out _).mono ?_; rintro x w' ⟨rfl, rfl⟩) | (go_at_call 27; refine (HR.out _).mono ?_; rintro x w' ⟨rfl, rfl⟩))
  refine (HN.out _ _).mono ?_
  rintro x W2 ⟨⟨aerr, rfl⟩, hb2⟩
  obtain ⟨a0, a1, a2, a3, af, alt⟩ := box4 hb2
  have HB2 := Lib.hid hb2
  clear hb2
  have s0 : ∀ v, (W2.setCell ⟨w.heap.size, 0, none⟩ v).cell? ⟨w.heap.size, 0, none⟩ = some v := fun v => World.cell?_setCell_same _ _ _ a0
  go_wp2_with fail
  refine bodyPost_ret (v := .tuple #[.agg #[.int .i64 0, .int .i64 0, .int .i64 0, .string ⟨#[]⟩], .iface 62 (.pointer (some aerr))]) (by simp [results, Tryz.results23, go_sem, s0, a1, a2, a3]) rfl ⟨⟨_, rfl⟩, ?_⟩
  have hb2 := HB2.out
  exact (((((HB.out _).trans (hb2.mono (by simp))).setCell (Nat.le_refl _) _).setCell (Nat.le_refl _) _).setCell (Nat.le_refl _) _).setCell (Nat.le_refl _) _

set_option maxHeartbeats 3200000 in
set_option maxRecDepth 100000 in
theorem tok_x60 {w : World} {p b n cap : Nat} {l : List UInt8} (hS : Src w p b n cap l) (hn : n ≤ 4611686018427387904) (i q : Nat) (hi : i ≤ n) (hs : Skips l i q) (he : NoEnds l) (hc : ch l q = 60) :
    Calls Tryz.prog 23 #[.pointer (some ⟨p, 0, none⟩), .int .i64 (i : Int)] w fun x w' => IsErr x ∧ Below w.heap.size w w' := by
  obtain ⟨c1, c2, c3⟩ := hS.cells
  have hqn : q < n := by have := ch_lt (l := l) (i := q) (by omega); rw [hS.body.len] at this; exact this
  have hb1 := fun o => (Below.refl _ w).alloc (Nat.le_refl _) o
  have HS := Lib.hid (fun o => skip_any (hS.body.below (hb1 o)) cap i q hn hi hs)
  have HR := Lib.hid (fun o => runeAt_in (hS.body.below (hb1 o)) cap (q : Int) (by omega) (by omega) 60 (by rw [Int.toNat_natCast]; exact hc))
  have HN := Lib.hid (fun o d => syntaxError_any (hS.below (hb1 o)) he hn (q : Int) (by omega) (by omega) d)
  have HB := Lib.hid hb1
  clear c3 hs hb1 hc
  go_enter Tryz.func23, Tryz.ntmps23
  go_wp2_with (first | (go_at_call 25; refine (HS.out _).mono ?_; rintro x w' ⟨rfl, rfl⟩) | (go_at_call 27; refine (HR.out _).mono ?_; rintro x w' ⟨rfl, rfl⟩))
  refine (HN.out _ _).mono ?_
  rintro x W2 ⟨⟨aerr, rfl⟩, hb2⟩
  obtain ⟨a0, a1, a2, a3, af, alt⟩ := box4 hb2
  have HB2 := Lib.hid hb2
  clear hb2
  have s0 : ∀ v, (W2.setCell ⟨w.heap.size, 0, none⟩ v).cell? ⟨w.heap.size, 0, none⟩ = some v := fun v => World.cell?_setCell_same _ _ _ a0
  go_wp2_with fail
  refine bodyPost_ret (v := .tuple #[.agg #[.int .i64 0, .int .i64 0, .int .i64 0, .string ⟨#[]⟩], .iface 62 (.pointer (some aerr))]) (by simp [results, Tryz.results23, go_sem, s0, a1, a2, a3]) rfl ⟨⟨_, rfl⟩, ?_⟩
  have hb2 := HB2.out
  exact (((((HB.out _).trans (hb2.mono (by simp))).setCell (Nat.le_refl _) _).setCell (Nat.le_refl _) _).setCell (Nat.le_refl _) _).setCell (Nat.le_refl _) _

end Go.Proofs.YthmdgegaejanaaaGreatDoor
