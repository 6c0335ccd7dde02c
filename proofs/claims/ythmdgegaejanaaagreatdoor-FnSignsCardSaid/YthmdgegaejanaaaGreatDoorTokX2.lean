/- ONE TOKEN (readToken): what is refused at once. -/
import Derived.Test.YthmdgegaejanaaaGreatDoorTokX
namespace Go.Proofs.YthmdgegaejanaaaGreatDoor
open Go.RowKit

set_option maxHeartbeats 3200000 in
set_option maxRecDepth 100000 in
theorem tok_x62 {w : World} {p b n cap : Nat} {l : List UInt8} (hS : Src w p b n cap l) (hn : n ≤ 4611686018427387904) (i q : Nat) (hi : i ≤ n) (hs : Skips l i q) (he : NoEnds l) (hc : ch l q = 62) :
    Calls Tryz.prog 23 #[.pointer (some ⟨p, 0, none⟩), .int .i64 (i : Int)] w fun x w' => IsErr x ∧ Below w.heap.size w w' := by
  obtain ⟨c1, c2, c3⟩ := hS.cells
  have hqn : q < n := by have := ch_lt (l := l) (i := q) (by omega); rw [hS.body.len] at this; exact this
  have hb1 := fun o => (Below.refl _ w).alloc (Nat.le_refl _) o
  have HS := Lib.hid (fun o => skip_any (hS.body.below (hb1 o)) cap i q hn hi hs)
  have HR := Lib.hid (fun o => runeAt_in (hS.body.below (hb1 o)) cap (q : Int) (by omega) (by omega) 62 (by rw [Int.toNat_natCast]; exact hc))
  have HN := Lib.hid (fun o d => syntaxError_any (hS.below (hb1 o)) he hn (q : Int) (by omega) (by omega) d)
  have HB := Lib.hid hb1
  clear c3 hs hb1 hc
  go_enter Tryz.func23, Tryz.ntmps23
  go_wp2_with (first | (go_at_call 25; refine (HS.out _).mono ?_; rintro x w' ⟨rfl, rfl⟩) | (go_at_call 27; refine (HR.out _).mono ?_; rintro x w' ⟨rfl, rfl⟩))
  refine (HN.out _ _).mono ?_
  rintro x W2 ⟨⟨aerr, rfl⟩, hb2⟩
  obtain ⟨a0, a1, a2, a3, af, alt⟩ := box4 hb2
  have HB2 := Lib.hid hb2
  clear hb2
  have s0 : ∀ v, (W2.setCell ⟨w.heap.size, 0, none⟩ v).cell? ⟨w.heap.size, 0, none⟩ = some v := fun v => World.cell?_setCell_same _ _ _ a0
  go_wp2_with fail
  refine bodyPost_ret (v := .tuple #[.agg #[.int .i64 0, .int .i64 0, .int .i64 0, .string ⟨#[]⟩], .iface 62 (.pointer (some aerr))]) (by simp [results, Tryz.results23, go_sem, s0, a1, a2, a3]) rfl ⟨⟨_, rfl⟩, ?_⟩
  have hb2 := HB2.out
  exact (((((HB.out _).trans (hb2.mono (by simp))).setCell (Nat.le_refl _) _).setCell (Nat.le_refl _) _).setCell (Nat.le_refl _) _).setCell (Nat.le_refl _) _

set_option maxHeartbeats 3200000 in
set_option maxRecDepth 100000 in
theorem tok_x63 {w : World} {p b n cap : Nat} {l : List UInt8} (hS : Src w p b n cap l) (hn : n ≤ 4611686018427387904) (i q : Nat) (hi : i ≤ n) (hs : Skips l i q) (he : NoEnds l) (hc : ch l q = 63) :
    Calls Tryz.prog 23 #[.pointer (some ⟨p, 0, none⟩), .int .i64 (i : Int)] w fun x w' => IsErr x ∧ Below w.heap.size w w' := by
  obtain ⟨c1, c2, c3⟩ := hS.cells
  have hqn : q < n := by have := ch_lt (l := l) (i := q) (by omega); rw [hS.body.len] at this; exact this
  have hb1 := fun o => (Below.refl _ w).alloc (Nat.le_refl _) o
  have HS := Lib.hid (fun o => skip_any (hS.body.below (hb1 o)) cap i q hn hi hs)
  have HR := Lib.hid (fun o => runeAt_in (hS.body.below (hb1 o)) cap (q : Int) (by omega) (by omega) 63 (by rw [Int.toNat_natCast]; exact hc))
  have HN := Lib.hid (fun o d => syntaxError_any (hS.below (hb1 o)) he hn (q : Int) (by omega) (by omega) d)
  have HB := Lib.hid hb1
  clear c3 hs hb1 hc
  go_enter Tryz.func23, Tryz.ntmps23
  go_wp2_with (first | (go_at_call 25; refine (HS.out _).mono ?_; rintro x w' ⟨rfl, rfl⟩) | (go_at_call 27; refine (HR.out _).mono ?_; rintro x w' ⟨rfl, rfl⟩))
  refine (HN.out _ _).mono ?_
  rintro x W2 ⟨⟨aerr, rfl⟩, hb2⟩
  obtain ⟨a0, a1, a2, a3, af, alt⟩ := box4 hb2
  have HB2 := Lib.hid hb2
  clear hb2
  have s0 : ∀ v, (W2.setCell ⟨w.heap.size, 0, none⟩ v).cell? ⟨w.heap.size, 0, none⟩ = some v := fun v => World.cell?_setCell_same _ _ _ a0
  go_wp2_with fail
  refine bodyPost_ret (v := .tuple #[.agg #[.int .i64 0, .int .i64 0, .int .i64 0, .string ⟨#[]⟩], .iface 62 (.pointer (some aerr))]) (by simp [results, Tryz.results23, go_sem, s0, a1, a2, a3]) rfl ⟨⟨_, rfl⟩, ?_⟩
  have hb2 := HB2.out
  exact (((((HB.out _).trans (hb2.mono (by simp))).setCell (Nat.le_refl _) _).setCell (Nat.le_refl _) _).setCell (Nat.le_refl _) _).setCell (Nat.le_refl _) _

set_option maxHeartbeats 3200000 in
set_option maxRecDepth 100000 in
theorem tok_x92 {w : World} {p b n cap : Nat} {l : List UInt8} (hS : Src w p b n cap l) (hn : n ≤ 4611686018427387904) (i q : Nat) (hi : i ≤ n) (hs : Skips l i q) (he : NoEnds l) (hc : ch l q = 92) :
    Calls Tryz.prog 23 #[.pointer (some ⟨p, 0, none⟩), .int .i64 (i : Int)] w fun x w' => IsErr x ∧ Below w.heap.size w w' := by
  obtain ⟨c1, c2, c3⟩ := hS.cells
  have hqn : q < n := by have := ch_lt (l := l) (i := q) (by omega); rw [hS.body.len] at this; exact this
  have hb1 := fun o => (Below.refl _ w).alloc (Nat.le_refl _) o
  have HS := Lib.hid (fun o => skip_any (hS.body.below (hb1 o)) cap i q hn hi hs)
  have HR := Lib.hid (fun o => runeAt_in (hS.body.below (hb1 o)) cap (q : Int) (by omega) (by omega) 92 (by rw [Int.toNat_natCast]; exact hc))
  have HN := Lib.hid (fun o d => syntaxError_any (hS.below (hb1 o)) he hn (q : Int) (by omega) (by omega) d)
  have HB := Lib.hid hb1
  clear c3 hs hb1 hc
  go_enter Tryz.func23, Tryz.ntmps23
  go_wp2_with (first | (go_at_call 25; refine (HS.out _).mono ?_; rintro x w' ⟨rfl, rfl⟩) | (go_at_call 27; refine (HR.out _).mono ?_; rintro x w' ⟨rfl, rfl⟩))
  refine (HN.out _ _).mono ?_
  rintro x W2 ⟨⟨aerr, rfl⟩, hb2⟩
  obtain ⟨a0, a1, a2, a3, af, alt⟩ := box4 hb2
  have HB2 := Lib.hid hb2
  clear hb2
  have s0 : ∀ v, (W2.setCell ⟨w.heap.size, 0, none⟩ v).cell? ⟨w.heap.size, 0, none⟩ = some v := fun v => World.cell?_setCell_same _ _ _ a0
  go_wp2_with fail
  refine bodyPost_ret (v := .tuple #[.agg #[.int .i64 0, .int .i64 0, .int .i64 0, .string ⟨#[]⟩], .iface 62 (.pointer (some aerr))]) (by simp [results, Tryz.results23, go_sem, s0, a1, a2, a3]) rfl ⟨⟨_, rfl⟩, ?_⟩
  have hb2 := HB2.out
  exact (((((HB.out _).trans (hb2.mono (by simp))).setCell (Nat.le_refl _) _).setCell (Nat.le_refl _) _).setCell (Nat.le_refl _) _).setCell (Nat.le_refl _) _

set_option maxHeartbeats 3200000 in
set_option maxRecDepth 100000 in
theorem tok_x94 {w : World} {p b n cap : Nat} {l : List UInt8} (hS : Src w p b n cap l) (hn : n ≤ 4611686018427387904) (i q : Nat) (hi : i ≤ n) (hs : Skips l i q) (he : NoEnds l) (hc : ch l q = 94) :
    Calls Tryz.prog 23 #[.pointer (some ⟨p, 0, none⟩), .int .i64 (i : Int)] w fun x w' => IsErr x ∧ Below w.heap.size w w' := by
  obtain ⟨c1, c2, c3⟩ := hS.cells
  have hqn : q < n := by have := ch_lt (l := l) (i := q) (by omega); rw [hS.body.len] at this; exact this
  have hb1 := fun o => (Below.refl _ w).alloc (Nat.le_refl _) o
  have HS := Lib.hid (fun o => skip_any (hS.body.below (hb1 o)) cap i q hn hi hs)
  have HR := Lib.hid (fun o => runeAt_in (hS.body.below (hb1 o)) cap (q : Int) (by omega) (by omega) 94 (by rw [Int.toNat_natCast]; exact hc))
  have HN := Lib.hid (fun o d => syntaxError_any (hS.below (hb1 o)) he hn (q : Int) (by omega) (by omega) d)
  have HB := Lib.hid hb1
  clear c3 hs hb1 hc
  go_enter Tryz.func23, Tryz.ntmps23
  go_wp2_with (first | (go_at_call 25; refine (HS.out _).mono ?_; rintro x w' ⟨rfl, rfl⟩) | (go_at_call 27; refine (HR.out _).mono ?_; rintro x w' ⟨rfl, rfl⟩))
  refine (HN.out _ _).mono ?_
  rintro x W2 ⟨⟨aerr, rfl⟩, hb2⟩
  obtain ⟨a0, a1, a2, a3, af, alt⟩ := box4 hb2
  have HB2 := Lib.hid hb2
  clear hb2
  have s0 : ∀ v, (W2.setCell ⟨w.heap.size, 0, none⟩ v).cell? ⟨w.heap.size, 0, none⟩ = some v := fun v => World.cell?_setCell_same _ _ _ a0
  go_wp2_with fail
  refine bodyPost_ret (v := .tuple #[.agg #[.int .i64 0, .int .i64 0, .int .i64 0, .string ⟨#[]⟩], .iface 62 (.pointer (some aerr))]) (by simp [results, Tryz.results23, go_sem, s0, a1, a2, a3]) rfl ⟨⟨_, rfl⟩, ?_⟩
  have hb2 := HB2.out
  exact (((((HB.out _).trans (hb2.mono (by simp))).setCell (Nat.le_refl _) _).setCell (Nat.le_refl _) _).setCell (Nat.le_refl _) _).setCell (Nat.le_refl _) _

set_option maxHeartbeats 3200000 in
set_option maxRecDepth 100000 in
theorem tok_x96 {w : World} {p b n cap : Nat} {l : List UInt8} (hS : Src w p b n cap l) (hn : n ≤ 4611686018427387904) (i q : Nat) (hi : i ≤ n) (hs : Skips l i q) (he : NoEnds l) (hc : ch l q = 96) :
    Calls Tryz.prog 23 #[.pointer (some ⟨p, 0, none⟩), .int .i64 (i : Int)] w fun x w' => IsErr x ∧ Below w.heap.size w w' := by
  obtain ⟨c1, c2, c3⟩ := hS.cells
  have hqn : q < n := by have := ch_lt (l := l) (i := q) (by omega); rw [hS.body.len] at this; exact this
  have hb1 := fun o => (Below.refl _ w).alloc (Nat.le_refl _) o
  have HS := Lib.hid (fun o => skip_any (hS.body.below (hb1 o)) cap i q hn hi hs)
  have HR := Lib.hid (fun o => runeAt_in (hS.body.below (hb1 o)) cap (q : Int) (by omega) (by omega) 96 (by rw [Int.toNat_natCast]; exact hc))
  have HN := Lib.hid (fun o d => syntaxError_any (hS.below (hb1 o)) he hn (q : Int) (by omega) (by omega) d)
  have HB := Lib.hid hb1
  clear c3 hs hb1 hc
  go_enter Tryz.func23, Tryz.ntmps23
  go_wp2_with (first | (go_at_call 25; refine (HS.out _).mono ?_; rintro x w' ⟨rfl, rfl⟩) | (go_at_call 27; refine (HR.out _).mono ?_; rintro x w' ⟨rfl, rfl⟩))
  refine (HN.out _ _).mono ?_
  rintro x W2 ⟨⟨aerr, rfl⟩, hb2⟩
  obtain ⟨a0, a1, a2, a3, af, alt⟩ := box4 hb2
  have HB2 := Lib.hid hb2
  clear hb2
  have s0 : ∀ v, (W2.setCell ⟨w.heap.size, 0, none⟩ v).cell? ⟨w.heap.size, 0, none⟩ = some v := fun v => World.cell?_setCell_same _ _ _ a0
  go_wp2_with fail
  refine bodyPost_ret (v := .tuple #[.agg #[.int .i64 0, .int .i64 0, .int .i64 0, .string ⟨#[]⟩], .iface 62 (.pointer (some aerr))]) (by simp [results, Tryz.results23, go_sem, s0, a1, a2, a3]) rfl ⟨⟨_, rfl⟩, ?_⟩
  have hb2 := HB2.out
  exact (((((HB.out _).trans (hb2.mono (by simp))).setCell (Nat.le_refl _) _).setCell (Nat.le_refl _) _).setCell (Nat.le_refl _) _).setCell (Nat.le_refl _) _

set_option maxHeartbeats 3200000 in
set_option maxRecDepth 100000 in
theorem tok_x126 {w : World} {p b n cap : Nat} {l : List UInt8} (hS : Src w p b n cap l) (hn : n ≤ 4611686018427387904) (i q : Nat) (hi : i ≤ n) (hs : Skips l i q) (he : NoEnds l) (hc : ch l q = 126) :
    Calls Tryz.prog 23 #[.pointer (some ⟨p, 0, none⟩), .int .i64 (i : Int)] w fun x w' => IsErr x ∧ Below w.heap.size w w' := by
  obtain ⟨c1, c2, c3⟩ := hS.cells
  have hqn : q < n := by have := ch_lt (l := l) (i := q) (by omega); rw [hS.body.len] at this; exact this
  have hb1 := fun o => (Below.refl _ w).alloc (Nat.le_refl _) o
  have HS := Lib.hid (fun o => skip_any (hS.body.below (hb1 o)) cap i q hn hi hs)
  have HR := Lib.hid (fun o => runeAt_in (hS.body.below (hb1 o)) cap (q : Int) (by omega) (by omega) 126 (by rw [Int.toNat_natCast]; exact hc))
  have HN := Lib.hid (fun o d => syntaxError_any (hS.below (hb1 o)) he hn (q : Int) (by omega) (by omega) d)
  have HB := Lib.hid hb1
  clear c3 hs hb1 hc
  go_enter Tryz.func23, Tryz.ntmps23
  go_wp2_with (first | (go_at_call 25; refine (HS.out _).mono ?_; rintro x w' ⟨rfl, rfl⟩) | (go_at_call 27; refine (HR.out _).mono ?_; rintro x w' ⟨rfl, rfl⟩))
  refine (HN.out _ _).mono ?_
  rintro x W2 ⟨⟨aerr, rfl⟩, hb2⟩
  obtain ⟨a0, a1, a2, a3, af, alt⟩ := box4 hb2
  have HB2 := Lib.hid hb2
  clear hb2
  have s0 : ∀ v, (W2.setCell ⟨w.heap.size, 0, none⟩ v).cell? ⟨w.heap.size, 0, none⟩ = some v := fun v => World.cell?_setCell_same _ _ _ a0
  go_wp2_with fail
  refine bodyPost_ret (v := .tuple #[.agg #[.int .i64 0, .int .i64 0, .int .i64 0, .string ⟨#[]⟩], .iface 62 (.pointer (some aerr))]) (by simp [results, Tryz.results23, go_sem, s0, a1, a2, a3]) rfl ⟨⟨_, rfl⟩, ?_⟩
  have hb2 := HB2.out
  exact (((((HB.out _).trans (hb2.mono (by simp))).setCell (Nat.le_refl _) _).setCell (Nat.le_refl _) _).setCell (Nat.le_refl _) _).setCell (Nat.le_refl _) _

set_option maxHeartbeats 3200000 in
set_option maxRecDepth 100000 in
theorem tok_x127 {w : World} {p b n cap : Nat} {l : List UInt8} (hS : Src w p b n cap l) (hn : n ≤ 4611686018427387904) (i q : Nat) (hi : i ≤ n) (hs : Skips l i q) (he : NoEnds l) (hc : ch l q = 127) :
    Calls Tryz.prog 23 #[.pointer (some ⟨p, 0, none⟩), .int .i64 (i : Int)] w fun x w' => IsErr x ∧ Below w.heap.size w w' := by
  obtain ⟨c1, c2, c3⟩ := hS.cells
  have hqn : q < n := by have := ch_lt (l := l) (i := q) (by omega); rw [hS.body.len] at this; exact this
  have hb1 := fun o => (Below.refl _ w).alloc (Nat.le_refl _) o
  have HS := Lib.hid (fun o => skip_any (hS.body.below (hb1 o)) cap i q hn hi hs)
  have HR := Lib.hid (fun o => runeAt_in (hS.body.below (hb1 o)) cap (q : Int) (by omega) (by omega) 127 (by rw [Int.toNat_natCast]; exact hc))
  have HN := Lib.hid (fun o d => syntaxError_any (hS.below (hb1 o)) he hn (q : Int) (by omega) (by omega) d)
  have HB := Lib.hid hb1
  clear c3 hs hb1 hc
  go_enter Tryz.func23, Tryz.ntmps23
  go_wp2_with (first | (go_at_call 25; refine (HS.out _).mono ?_; rintro x w' ⟨rfl, rfl⟩) | (go_at_call 27; refine (HR.out _).mono ?_; rintro x w' ⟨rfl, rfl⟩))
  refine (HN.out _ _).mono ?_
  rintro x W2 ⟨⟨aerr, rfl⟩, hb2⟩
  obtain ⟨a0, a1, a2, a3, af, alt⟩ := box4 hb2
  have HB2 := Lib.hid hb2
  clear hb2
  have s0 : ∀ v, (W2.setCell ⟨w.heap.size, 0, none⟩ v).cell? ⟨w.heap.size, 0, none⟩ = some v := fun v => World.cell?_setCell_same _ _ _ a0
  go_wp2_with fail
  refine bodyPost_ret (v := .tuple #[.agg #[.int .i64 0, .int .i64 0, .int .i64 0, .string ⟨#[]⟩], .iface 62 (.pointer (some aerr))]) (by simp [results, Tryz.results23, go_sem, s0, a1, a2, a3]) rfl ⟨⟨_, rfl⟩, ?_⟩
  have hb2 := HB2.out
  exact (((((HB.out _).trans (hb2.mono (by simp))).setCell (Nat.le_refl _) _).setCell (Nat.le_refl _) _).setCell (Nat.le_refl _) _).setCell (Nat.le_refl _) _

set_option maxHeartbeats 3200000 in
set_option maxRecDepth 100000 in
theorem tok_control {w : World} {p b n cap : Nat} {l : List UInt8} (hS : Src w p b n cap l) (hn : n ≤ 4611686018427387904) (i q : Nat) (hi : i ≤ n) (hs : Skips l i q) (he : NoEnds l) (c : Int) (hc : ch l q = c) (h0 : 0 ≤ c) (h31 : c < 32) (h9 : c ≠ 9) :
    Calls Tryz.prog 23 #[.pointer (some ⟨p, 0, none⟩), .int .i64 (i : Int)] w fun x w' => IsErr x ∧ Below w.heap.size w w' := by
  obtain ⟨c1, c2, c3⟩ := hS.cells
  have hqn : q < n := by have := ch_lt (l := l) (i := q) (by omega); rw [hS.body.len] at this; exact this
  have hb1 := fun o => (Below.refl _ w).alloc (Nat.le_refl _) o
  have HS := Lib.hid (fun o => skip_any (hS.body.below (hb1 o)) cap i q hn hi hs)
  have HR := Lib.hid (fun o => runeAt_in (hS.body.below (hb1 o)) cap (q : Int) (by omega) (by omega) c (by rw [Int.toNat_natCast]; exact hc))
  have hen := he q
  rw [hc] at hen
  have b9 : (c != 9) = true := by rw [bne_iff_ne]; exact h9
  have b10 : (c != 10) = true := by rw [bne_iff_ne]; exact hen.1
  have b13 : (c != 13) = true := by rw [bne_iff_ne]; exact hen.2
  have HN := Lib.hid (fun o d => syntaxError_any (hS.below (hb1 o)) he hn (q : Int) (by omega) (by omega) d)
  have HB := Lib.hid hb1
  clear c3 hs hb1 hc hen h9
  go_enter Tryz.func23, Tryz.ntmps23
  go_wp2_with (first | (go_at_call 25; refine (HS.out _).mono ?_; rintro x w' ⟨rfl, rfl⟩) | (go_at_call 27; refine (HR.out _).mono ?_; rintro x w' ⟨rfl, rfl⟩))
  refine (HN.out _ _).mono ?_
  rintro x W2 ⟨⟨aerr, rfl⟩, hb2⟩
  obtain ⟨a0, a1, a2, a3, af, alt⟩ := box4 hb2
  have HB2 := Lib.hid hb2
  clear hb2
  have s0 : ∀ v, (W2.setCell ⟨w.heap.size, 0, none⟩ v).cell? ⟨w.heap.size, 0, none⟩ = some v := fun v => World.cell?_setCell_same _ _ _ a0
  go_wp2_with fail
  refine bodyPost_ret (v := .tuple #[.agg #[.int .i64 0, .int .i64 0, .int .i64 0, .string ⟨#[]⟩], .iface 62 (.pointer (some aerr))]) (by simp [results, Tryz.results23, go_sem, s0, a1, a2, a3]) rfl ⟨⟨_, rfl⟩, ?_⟩
  have hb2 := HB2.out
  exact (((((HB.out _).trans (hb2.mono (by simp))).setCell (Nat.le_refl _) _).setCell (Nat.le_refl _) _).setCell (Nat.le_refl _) _).setCell (Nat.le_refl _) _

set_option maxHeartbeats 3200000 in
set_option maxRecDepth 100000 in
theorem tok_dot {w : World} {p b n cap : Nat} {l : List UInt8} (hS : Src w p b n cap l) (hn : n ≤ 4611686018427387904) (i q : Nat) (hi : i ≤ n) (hs : Skips l i q) (he : NoEnds l) (hc : ch l q = 46) (h1 : ch l (q + 1) ≠ 46) :
    Calls Tryz.prog 23 #[.pointer (some ⟨p, 0, none⟩), .int .i64 (i : Int)] w fun x w' => IsErr x ∧ Below w.heap.size w w' := by
  obtain ⟨c1, c2, c3⟩ := hS.cells
  have hqn : q < n := by have := ch_lt (l := l) (i := q) (by omega); rw [hS.body.len] at this; exact this
  have hb1 := fun o => (Below.refl _ w).alloc (Nat.le_refl _) o
  have HS := Lib.hid (fun o => skip_any (hS.body.below (hb1 o)) cap i q hn hi hs)
  have HR := Lib.hid (fun o => runeAt_in (hS.body.below (hb1 o)) cap (q : Int) (by omega) (by omega) 46 (by rw [Int.toNat_natCast]; exact hc))
  have HR1 := Lib.hid (fun o => runeAt_any (hS.body.below (hb1 o)) cap ((q : Int) + 1) (by omega))
  have HR2 := Lib.hid (fun o => runeAt_any (hS.body.below (hb1 o)) cap ((q : Int) + 2) (by omega))
  rw [show ((q : Int) + 1).toNat = q + 1 by omega] at HR1
  generalize ch l (q + 1) = d1 at h1 HR1
  generalize cw l (q + 1) = e1 at HR1
  generalize ch l ((q : Int) + 2).toNat = d2 at HR2
  generalize cw l ((q : Int) + 2).toNat = e2 at HR2
  have b1 : (d1 == 46) = false := by simpa using h1
  clear h1
  have HN := Lib.hid (fun o d => syntaxError_any (hS.below (hb1 o)) he hn (q : Int) (by omega) (by omega) d)
  have HB := Lib.hid hb1
  clear c3 hs hb1 hc
  go_enter Tryz.func23, Tryz.ntmps23
  go_wp2_with fail
  refine (HS.out _).mono ?_
  rintro x w' ⟨rfl, rfl⟩
  go_wp2_with fail
  refine (HR.out _).mono ?_
  rintro x w' ⟨rfl, rfl⟩
  go_wp2_with fail
  refine (HR1.out _).mono ?_
  rintro x w' ⟨rfl, rfl⟩
  go_wp2_with fail
  refine (HR2.out _).mono ?_
  rintro x w' ⟨rfl, rfl⟩
  go_wp2_with fail
  refine (HN.out _ _).mono ?_
  rintro x W2 ⟨⟨aerr, rfl⟩, hb2⟩
  obtain ⟨a0, a1, a2, a3, af, alt⟩ := box4 hb2
  have HB2 := Lib.hid hb2
  clear hb2
  have s0 : ∀ v, (W2.setCell ⟨w.heap.size, 0, none⟩ v).cell? ⟨w.heap.size, 0, none⟩ = some v := fun v => World.cell?_setCell_same _ _ _ a0
  go_wp2_with fail
  refine bodyPost_ret (v := .tuple #[.agg #[.int .i64 0, .int .i64 0, .int .i64 0, .string ⟨#[]⟩], .iface 62 (.pointer (some aerr))]) (by simp [results, Tryz.results23, go_sem, s0, a1, a2, a3]) rfl ⟨⟨_, rfl⟩, ?_⟩
  have hb2 := HB2.out
  exact (((((HB.out _).trans (hb2.mono (by simp))).setCell (Nat.le_refl _) _).setCell (Nat.le_refl _) _).setCell (Nat.le_refl _) _).setCell (Nat.le_refl _) _

theorem tok_bad {w : World} {p b n cap : Nat} {l : List UInt8} (hS : Src w p b n cap l) (hn : n ≤ 4611686018427387904) (i q : Nat) (hi : i ≤ n) (hs : Skips l i q) (he : NoEnds l) (c : Int) (hc : ch l q = c) (h : c = 37 ∨ c = 39 ∨ c = 42 ∨ c = 43 ∨ c = 47 ∨ c = 59 ∨ c = 60 ∨ c = 62 ∨ c = 63 ∨ c = 92 ∨ c = 94 ∨ c = 96 ∨ c = 126 ∨ c = 127) :
    Calls Tryz.prog 23 #[.pointer (some ⟨p, 0, none⟩), .int .i64 (i : Int)] w fun x w' => IsErr x ∧ Below w.heap.size w w' := by
  rcases h with rfl | rfl | rfl | rfl | rfl | rfl | rfl | rfl | rfl | rfl | rfl | rfl | rfl | rfl
  · exact tok_x37 hS hn i q hi hs he hc
  · exact tok_x39 hS hn i q hi hs he hc
  · exact tok_x42 hS hn i q hi hs he hc
  · exact tok_x43 hS hn i q hi hs he hc
  · exact tok_x47 hS hn i q hi hs he hc
  · exact tok_x59 hS hn i q hi hs he hc
  · exact tok_x60 hS hn i q hi hs he hc
  · exact tok_x62 hS hn i q hi hs he hc
  · exact tok_x63 hS hn i q hi hs he hc
  · exact tok_x92 hS hn i q hi hs he hc
  · exact tok_x94 hS hn i q hi hs he hc
  · exact tok_x96 hS hn i q hi hs he hc
  · exact tok_x126 hS hn i q hi hs he hc
  · exact tok_x127 hS hn i q hi hs he hc

end Go.Proofs.YthmdgegaejanaaaGreatDoor
