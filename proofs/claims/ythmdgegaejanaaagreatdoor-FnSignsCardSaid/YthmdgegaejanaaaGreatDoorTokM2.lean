/- ONE TOKEN (readToken): numbers, by the first sign, over readNumber's contract. -/
import Derived.Test.YthmdgegaejanaaaGreatDoorTokRes
namespace Go.Proofs.YthmdgegaejanaaaGreatDoor
open Go.RowKit

set_option maxHeartbeats 3200000 in
set_option maxRecDepth 100000 in
theorem tok_n51 {w : World} {p b n cap : Nat} {l : List UInt8} (hS : Src w p b n cap l) (hn : n ≤ 4611686018427387904) (i q : Nat) (hi : i ≤ n) (hs : Skips l i q) (k : Int) (s e : Nat) (v : ByteArray) (bad : Bool) (hc : ch l q = 51)
    (hN : ∀ W : World, Src W p b n cap l → Calls Tryz.prog 30 #[.pointer (some ⟨p, 0, none⟩), .int .i64 (q : Int), .int .i32 51, .int .i64 1] W fun x w' => Res k s e v bad x ∧ Below W.heap.size W w') :
    Calls Tryz.prog 23 #[.pointer (some ⟨p, 0, none⟩), .int .i64 (i : Int)] w fun x w' => Res k s e v bad x ∧ Below w.heap.size w w' := by
  obtain ⟨c1, c2, c3⟩ := hS.cells
  have hqn : q < n := by have := ch_lt (l := l) (i := q) (by omega); rw [hS.body.len] at this; exact this
  have hb1 := fun o => (Below.refl _ w).alloc (Nat.le_refl _) o
  have HS := Lib.hid (fun o => skip_any (hS.body.below (hb1 o)) cap i q hn hi hs)
  have HR := Lib.hid (fun o => runeAt_in (hS.body.below (hb1 o)) cap (q : Int) (by omega) (by omega) 51 (by rw [Int.toNat_natCast]; exact hc))
  have HN := Lib.hid (fun o => hN _ (hS.below (hb1 o)))
  have HB := Lib.hid hb1
  clear c3 hs hb1 hc hN
  go_enter Tryz.func23, Tryz.ntmps23
  go_wp2_with (first | (go_at_call 25; refine (HS.out _).mono ?_; rintro x w' ⟨rfl, rfl⟩) | (go_at_call 27; refine (HR.out _).mono ?_; rintro x w' ⟨rfl, rfl⟩))
  refine (HN.out _).mono ?_
  rintro x W2 ⟨hres, hb2⟩
  obtain ⟨a0, a1, a2, a3, af, alt⟩ := box4 hb2
  have HB2 := Lib.hid hb2
  clear hb2
  cases bad with
  | false =>
    obtain rfl := hres
    go_wp2_with fail
    have s0 : ∀ u : Value, (W2.setCell ⟨w.heap.size, 0, none⟩ u).cell? ⟨w.heap.size, 0, none⟩ = some u := fun u => World.cell?_setCell_same _ _ _ a0
    refine bodyPost_ret (v := .tuple #[.agg #[.int .i64 k, .int .i64 s, .int .i64 e, .string v], .nilIface]) (by simp [results, Tryz.results23, go_sem, s0, a1, a2, a3, alt]) rfl ⟨rfl, ?_⟩
    have hb2 := HB2.out
    have hz := alt
    exact ((((((HB.out _).trans (hb2.mono (by simp))).setCell (Nat.le_refl _) _).setCell (Nat.le_refl _) _).setCell (Nat.le_refl _) _).setCell (Nat.le_refl _) _).alloc (by simp [World.setCell]; omega) _
  | true =>
    obtain ⟨aerr, rfl⟩ := hres
    go_wp2_with fail
    have s0 : ∀ u : Value, (W2.setCell ⟨w.heap.size, 0, none⟩ u).cell? ⟨w.heap.size, 0, none⟩ = some u := fun u => World.cell?_setCell_same _ _ _ a0
    refine bodyPost_ret (v := .tuple #[.agg #[.int .i64 k, .int .i64 s, .int .i64 e, .string v], .iface 62 (.pointer (some aerr))]) (by simp [results, Tryz.results23, go_sem, s0, a1, a2, a3, alt]) rfl ⟨⟨aerr, rfl⟩, ?_⟩
    have hb2 := HB2.out
    have hz := alt
    exact ((((((HB.out _).trans (hb2.mono (by simp))).setCell (Nat.le_refl _) _).setCell (Nat.le_refl _) _).setCell (Nat.le_refl _) _).setCell (Nat.le_refl _) _).alloc (by simp [World.setCell]; omega) _

set_option maxHeartbeats 3200000 in
set_option maxRecDepth 100000 in
theorem tok_n52 {w : World} {p b n cap : Nat} {l : List UInt8} (hS : Src w p b n cap l) (hn : n ≤ 4611686018427387904) (i q : Nat) (hi : i ≤ n) (hs : Skips l i q) (k : Int) (s e : Nat) (v : ByteArray) (bad : Bool) (hc : ch l q = 52)
    (hN : ∀ W : World, Src W p b n cap l → Calls Tryz.prog 30 #[.pointer (some ⟨p, 0, none⟩), .int .i64 (q : Int), .int .i32 52, .int .i64 1] W fun x w' => Res k s e v bad x ∧ Below W.heap.size W w') :
    Calls Tryz.prog 23 #[.pointer (some ⟨p, 0, none⟩), .int .i64 (i : Int)] w fun x w' => Res k s e v bad x ∧ Below w.heap.size w w' := by
  obtain ⟨c1, c2, c3⟩ := hS.cells
  have hqn : q < n := by have := ch_lt (l := l) (i := q) (by omega); rw [hS.body.len] at this; exact this
  have hb1 := fun o => (Below.refl _ w).alloc (Nat.le_refl _) o
  have HS := Lib.hid (fun o => skip_any (hS.body.below (hb1 o)) cap i q hn hi hs)
  have HR := Lib.hid (fun o => runeAt_in (hS.body.below (hb1 o)) cap (q : Int) (by omega) (by omega) 52 (by rw [Int.toNat_natCast]; exact hc))
  have HN := Lib.hid (fun o => hN _ (hS.below (hb1 o)))
  have HB := Lib.hid hb1
  clear c3 hs hb1 hc hN
  go_enter Tryz.func23, Tryz.ntmps23
  go_wp2_with (first | (go_at_call 25; refine (HS.out _).mono ?_; rintro x w' ⟨rfl, rfl⟩) | (go_at_call 27; refine (HR.out _).mono ?_; rintro x w' ⟨rfl, rfl⟩))
  refine (HN.out _).mono ?_
  rintro x W2 ⟨hres, hb2⟩
  obtain ⟨a0, a1, a2, a3, af, alt⟩ := box4 hb2
  have HB2 := Lib.hid hb2
  clear hb2
  cases bad with
  | false =>
    obtain rfl := hres
    go_wp2_with fail
    have s0 : ∀ u : Value, (W2.setCell ⟨w.heap.size, 0, none⟩ u).cell? ⟨w.heap.size, 0, none⟩ = some u := fun u => World.cell?_setCell_same _ _ _ a0
    refine bodyPost_ret (v := .tuple #[.agg #[.int .i64 k, .int .i64 s, .int .i64 e, .string v], .nilIface]) (by simp [results, Tryz.results23, go_sem, s0, a1, a2, a3, alt]) rfl ⟨rfl, ?_⟩
    have hb2 := HB2.out
    have hz := alt
    exact ((((((HB.out _).trans (hb2.mono (by simp))).setCell (Nat.le_refl _) _).setCell (Nat.le_refl _) _).setCell (Nat.le_refl _) _).setCell (Nat.le_refl _) _).alloc (by simp [World.setCell]; omega) _
  | true =>
    obtain ⟨aerr, rfl⟩ := hres
    go_wp2_with fail
    have s0 : ∀ u : Value, (W2.setCell ⟨w.heap.size, 0, none⟩ u).cell? ⟨w.heap.size, 0, none⟩ = some u := fun u => World.cell?_setCell_same _ _ _ a0
    refine bodyPost_ret (v := .tuple #[.agg #[.int .i64 k, .int .i64 s, .int .i64 e, .string v], .iface 62 (.pointer (some aerr))]) (by simp [results, Tryz.results23, go_sem, s0, a1, a2, a3, alt]) rfl ⟨⟨aerr, rfl⟩, ?_⟩
    have hb2 := HB2.out
    have hz := alt
    exact ((((((HB.out _).trans (hb2.mono (by simp))).setCell (Nat.le_refl _) _).setCell (Nat.le_refl _) _).setCell (Nat.le_refl _) _).setCell (Nat.le_refl _) _).alloc (by simp [World.setCell]; omega) _

set_option maxHeartbeats 3200000 in
set_option maxRecDepth 100000 in
theorem tok_n53 {w : World} {p b n cap : Nat} {l : List UInt8} (hS : Src w p b n cap l) (hn : n ≤ 4611686018427387904) (i q : Nat) (hi : i ≤ n) (hs : Skips l i q) (k : Int) (s e : Nat) (v : ByteArray) (bad : Bool) (hc : ch l q = 53)
    (hN : ∀ W : World, Src W p b n cap l → Calls Tryz.prog 30 #[.pointer (some ⟨p, 0, none⟩), .int .i64 (q : Int), .int .i32 53, .int .i64 1] W fun x w' => Res k s e v bad x ∧ Below W.heap.size W w') :
    Calls Tryz.prog 23 #[.pointer (some ⟨p, 0, none⟩), .int .i64 (i : Int)] w fun x w' => Res k s e v bad x ∧ Below w.heap.size w w' := by
  obtain ⟨c1, c2, c3⟩ := hS.cells
  have hqn : q < n := by have := ch_lt (l := l) (i := q) (by omega); rw [hS.body.len] at this; exact this
  have hb1 := fun o => (Below.refl _ w).alloc (Nat.le_refl _) o
  have HS := Lib.hid (fun o => skip_any (hS.body.below (hb1 o)) cap i q hn hi hs)
  have HR := Lib.hid (fun o => runeAt_in (hS.body.below (hb1 o)) cap (q : Int) (by omega) (by omega) 53 (by rw [Int.toNat_natCast]; exact hc))
  have HN := Lib.hid (fun o => hN _ (hS.below (hb1 o)))
  have HB := Lib.hid hb1
  clear c3 hs hb1 hc hN
  go_enter Tryz.func23, Tryz.ntmps23
  go_wp2_with (first | (go_at_call 25; refine (HS.out _).mono ?_; rintro x w' ⟨rfl, rfl⟩) | (go_at_call 27; refine (HR.out _).mono ?_; rintro x w' ⟨rfl, rfl⟩))
  refine (HN.out _).mono ?_
  rintro x W2 ⟨hres, hb2⟩
  obtain ⟨a0, a1, a2, a3, af, alt⟩ := box4 hb2
  have HB2 := Lib.hid hb2
  clear hb2
  cases bad with
  | false =>
    obtain rfl := hres
    go_wp2_with fail
    have s0 : ∀ u : Value, (W2.setCell ⟨w.heap.size, 0, none⟩ u).cell? ⟨w.heap.size, 0, none⟩ = some u := fun u => World.cell?_setCell_same _ _ _ a0
    refine bodyPost_ret (v := .tuple #[.agg #[.int .i64 k, .int .i64 s, .int .i64 e, .string v], .nilIface]) (by simp [results, Tryz.results23, go_sem, s0, a1, a2, a3, alt]) rfl ⟨rfl, ?_⟩
    have hb2 := HB2.out
    have hz := alt
    exact ((((((HB.out _).trans (hb2.mono (by simp))).setCell (Nat.le_refl _) _).setCell (Nat.le_refl _) _).setCell (Nat.le_refl _) _).setCell (Nat.le_refl _) _).alloc (by simp [World.setCell]; omega) _
  | true =>
    obtain ⟨aerr, rfl⟩ := hres
    go_wp2_with fail
    have s0 : ∀ u : Value, (W2.setCell ⟨w.heap.size, 0, none⟩ u).cell? ⟨w.heap.size, 0, none⟩ = some u := fun u => World.cell?_setCell_same _ _ _ a0
    refine bodyPost_ret (v := .tuple #[.agg #[.int .i64 k, .int .i64 s, .int .i64 e, .string v], .iface 62 (.pointer (some aerr))]) (by simp [results, Tryz.results23, go_sem, s0, a1, a2, a3, alt]) rfl ⟨⟨aerr, rfl⟩, ?_⟩
    have hb2 := HB2.out
    have hz := alt
    exact ((((((HB.out _).trans (hb2.mono (by simp))).setCell (Nat.le_refl _) _).setCell (Nat.le_refl _) _).setCell (Nat.le_refl _) _).setCell (Nat.le_refl _) _).alloc (by simp [World.setCell]; omega) _

set_option maxHeartbeats 3200000 in
set_option maxRecDepth 100000 in
theorem tok_n54 {w : World} {p b n cap : Nat} {l : List UInt8} (hS : Src w p b n cap l) (hn : n ≤ 4611686018427387904) (i q : Nat) (hi : i ≤ n) (hs : Skips l i q) (k : Int) (s e : Nat) (v : ByteArray) (bad : Bool) (hc : ch l q = 54)
    (hN : ∀ W : World, Src W p b n cap l → Calls Tryz.prog 30 #[.pointer (some ⟨p, 0, none⟩), .int .i64 (q : Int), .int .i32 54, .int .i64 1] W fun x w' => Res k s e v bad x ∧ Below W.heap.size W w') :
    Calls Tryz.prog 23 #[.pointer (some ⟨p, 0, none⟩), .int .i64 (i : Int)] w fun x w' => Res k s e v bad x ∧ Below w.heap.size w w' := by
  obtain ⟨c1, c2, c3⟩ := hS.cells
  have hqn : q < n := by have := ch_lt (l := l) (i := q) (by omega); rw [hS.body.len] at this; exact this
  have hb1 := fun o => (Below.refl _ w).alloc (Nat.le_refl _) o
  have HS := Lib.hid (fun o => skip_any (hS.body.below (hb1 o)) cap i q hn hi hs)
  have HR := Lib.hid (fun o => runeAt_in (hS.body.below (hb1 o)) cap (q : Int) (by omega) (by omega) 54 (by rw [Int.toNat_natCast]; exact hc))
  have HN := Lib.hid (fun o => hN _ (hS.below (hb1 o)))
  have HB := Lib.hid hb1
  clear c3 hs hb1 hc hN
  go_enter Tryz.func23, Tryz.ntmps23
  go_wp2_with (first | (go_at_call 25; refine (HS.out _).mono ?_; rintro x w' ⟨rfl, rfl⟩) | (go_at_call 27; refine (HR.out _).mono ?_; rintro x w' ⟨rfl, rfl⟩))
  refine (HN.out _).mono ?_
  rintro x W2 ⟨hres, hb2⟩
  obtain ⟨a0, a1, a2, a3, af, alt⟩ := box4 hb2
  have HB2 := Lib.hid hb2
  clear hb2
  cases bad with
  | false =>
    obtain rfl := hres
    go_wp2_with fail
    have s0 : ∀ u : Value, (W2.setCell ⟨w.heap.size, 0, none⟩ u).cell? ⟨w.heap.size, 0, none⟩ = some u := fun u => World.cell?_setCell_same _ _ _ a0
    refine bodyPost_ret (v := .tuple #[.agg #[.int .i64 k, .int .i64 s, .int .i64 e, .string v], .nilIface]) (by simp [results, Tryz.results23, go_sem, s0, a1, a2, a3, alt]) rfl ⟨rfl, ?_⟩
    have hb2 := HB2.out
    have hz := alt
    exact ((((((HB.out _).trans (hb2.mono (by simp))).setCell (Nat.le_refl _) _).setCell (Nat.le_refl _) _).setCell (Nat.le_refl _) _).setCell (Nat.le_refl _) _).alloc (by simp [World.setCell]; omega) _
  | true =>
    obtain ⟨aerr, rfl⟩ := hres
    go_wp2_with fail
    have s0 : ∀ u : Value, (W2.setCell ⟨w.heap.size, 0, none⟩ u).cell? ⟨w.heap.size, 0, none⟩ = some u := fun u => World.cell?_setCell_same _ _ _ a0
    refine bodyPost_ret (v := .tuple #[.agg #[.int .i64 k, .int .i64 s, .int .i64 e, .string v], .iface 62 (.pointer (some aerr))]) (by simp [results, Tryz.results23, go_sem, s0, a1, a2, a3, alt]) rfl ⟨⟨aerr, rfl⟩, ?_⟩
    have hb2 := HB2.out
    have hz := alt
    exact ((((((HB.out _).trans (hb2.mono (by simp))).setCell (Nat.le_refl _) _).setCell (Nat.le_refl _) _).setCell (Nat.le_refl _) _).setCell (Nat.le_refl _) _).alloc (by simp [World.setCell]; omega) _

end Go.Proofs.YthmdgegaejanaaaGreatDoor
