/- THE PARSER's STATE; the lexer's closure at a place that is given; advance. -/
import Derived.Test.YtannihddhebcpaaGreatDoorTokL
import Derived.Test.YtannihddhebcpaaGreatDoorBlk
namespace Go.Proofs.YtannihddhebcpaaGreatDoor
open Go.RowKit

set_option maxHeartbeats 1600000 in
set_option maxRecDepth 100000 in
/-- The closure at place r. -/
theorem next_at {W : World} {g h p b n cap i r : Nat} {l : List UInt8} {k : Int} {s e : Nat} {v : ByteArray} (hr : 0 < r) (hT : TokAt l r k s e v) (hS : Src W p b n cap l) (hn : n ≤ 4611686018427387904) (hV : Vars W g h p i) :
    Calls Tryz.prog 132 #[.int .i64 (r : Int), .pointer (some ⟨g, 0, none⟩), .pointer (some ⟨h, 0, none⟩)] W fun x w' =>
      x = .returned (.tuple #[.agg #[.int .i64 k, .int .i64 s, .int .i64 e, .string v], .nilIface]) ∧ w'.cell? ⟨g, 0, none⟩ = some (.int .i64 e) ∧ w'.frozen? ⟨g, 0, none⟩ = false ∧ W.grownBy w' (some g) := by
  obtain ⟨v0, v1, v2, v3, v4⟩ := hV
  have d0 : ∀ o, (W.alloc o).cell? ⟨g, 0, none⟩ = some (.int .i64 i) := fun o => by rw [World.cell?_alloc_past _ _ _ v3]; exact v0
  have d2 : ∀ o, (W.alloc o).cell? ⟨h, 0, none⟩ = some (.pointer (some ⟨p, 0, none⟩)) := fun o => by rw [World.cell?_alloc_past _ _ _ v4]; exact v2
  have hb1 := fun o => (Below.refl _ W).alloc (Nat.le_refl _) o
  have HT := Lib.hid (fun o => hT _ _ _ _ _ (hS.below (hb1 o)) hn)
  have b0 : ((r : Int) == 0) = false := by simp; omega
  clear hT
  go_enter Tryz.func132, Tryz.ntmps132
  go_wp2_with fail
  refine (HT.out _).mono ?_
  rintro x W2 ⟨rfl, hb2⟩
  obtain ⟨a0, a1, a2, a3, af, alt⟩ := box4 hb2
  have e0 : W2.cell? ⟨g, 0, none⟩ = some (.int .i64 i) := (hb2.cell (p := ⟨g, 0, none⟩) (by simp; omega)).trans (d0 _)
  have e1 : W2.frozen? ⟨g, 0, none⟩ = false := (hb2.frozen (p := ⟨g, 0, none⟩) (by simp; omega)).trans ((World.frozen?_alloc_past _ _ _ v3).trans v1)
  have hg2 : g < W2.heap.size := by omega
  have HB2 := Lib.hid hb2
  have HA := Lib.hid (And.intro a0 (And.intro a1 (And.intro a2 a3)))
  have HE := Lib.hid e0
  clear hb2 hS v0 v1 v2
  go_wp2_with fail
  obtain ⟨a0, a1, a2, a3⟩ := HA.out
  have e0 := HE.out
  have r0 : ∀ u x : Value, ((W2.setCell ⟨g, 0, none⟩ u).setCell ⟨W.heap.size, 0, none⟩ x).cell? ⟨W.heap.size, 0, none⟩ = some x := fun u x => set2_same (by omega) a0
  refine bodyPost_ret (v := .tuple #[.agg #[.int .i64 k, .int .i64 s, .int .i64 e, .string v], .nilIface]) (by simp [results, Tryz.results132, go_sem, r0, a1, a2, a3, alt]) rfl ⟨rfl, ?_, ?_, ?_⟩
  · have hx : ∀ x : Value, (W2.setCell ⟨g, 0, none⟩ x).cell? ⟨g, 0, none⟩ = some x := fun x => World.cell?_setCell_same _ _ _ e0
    rw [World.cell?_alloc_past _ _ _ (by simpa [World.setCell] using hg2)]
    rw [World.cell?_setCell_other _ _ _ _ (addr_ne (by omega)), World.cell?_setCell_other _ _ _ _ (addr_ne (by omega)), World.cell?_setCell_other _ _ _ _ (addr_ne (by omega)), World.cell?_setCell_other _ _ _ _ (addr_ne (by omega))]
    exact hx _
  · rw [World.frozen?_alloc_past _ _ _ (by simpa [World.setCell] using hg2), World.frozen?_setCell, World.frozen?_setCell, World.frozen?_setCell, World.frozen?_setCell, World.frozen?_setCell]
    exact e1
  · have k1 : W.grownBy W2 (some g) := only_of_below (((Below.refl _ W).alloc (Nat.le_refl _) _).trans (HB2.out.mono (by simp))) _
    exact only_alloc (only_setCell (only_setCell (only_setCell (only_setCell (only_setCell k1 (.inl rfl) _) (.inr (Nat.le_refl _)) _) (.inr (Nat.le_refl _)) _) (.inr (Nat.le_refl _)) _) (.inr (Nat.le_refl _)) _) _

/-- All is as it was, but for two blocks (the parser's, the closure's place), and for what is new. -/
structure Keep (q g : Nat) (a w : World) : Prop where
  os : w.os = a.os
  tape : w.tape = a.tape
  output : w.output = a.output
  size : a.heap.size ≤ w.heap.size
  block : ∀ i, i < a.heap.size → i ≠ q → i ≠ g → w.heap[i]? = a.heap[i]?

section
variable {q g : Nat} {a w c : World}
theorem Keep.refl (q g : Nat) (a : World) : Keep q g a a := ⟨rfl, rfl, rfl, Nat.le_refl _, fun _ _ _ _ => rfl⟩
theorem Keep.trans (h : Keep q g a w) (k : Keep q g w c) : Keep q g a c :=
  ⟨k.os.trans h.os, k.tape.trans h.tape, k.output.trans h.output, Nat.le_trans h.size k.size, fun i hi h1 h2 => (k.block i (Nat.lt_of_lt_of_le hi h.size) h1 h2).trans (h.block i hi h1 h2)⟩
theorem Keep.of_below (h : Below a.heap.size a w) : Keep q g a w := ⟨h.os, h.tape, h.output, h.size, fun i hi _ _ => h.block i hi⟩
theorem Keep.of_only (h : a.grownBy w (some g)) : Keep q g a w := ⟨h.os, h.tape, h.output, h.size, fun i hi _ h2 => h.block i hi (by intro e; injection e with e; exact h2 e)⟩
theorem Keep.drewN (h : Keep q g a w) (n : Nat) : Keep q g a (w.drewN n) := ⟨h.os, h.tape, h.output, h.size, h.block⟩
theorem Keep.alloc (h : Keep q g a w) (o : Obj) : Keep q g a (w.alloc o) :=
  ⟨h.os, h.tape, h.output, Nat.le_trans h.size (by simp), fun i hi h1 h2 => (Below.heap_alloc w o i (Nat.lt_of_lt_of_le hi h.size)).trans (h.block i hi h1 h2)⟩
theorem Keep.setCell (h : Keep q g a w) {p : Addr} (hp : p.block = q ∨ p.block = g ∨ a.heap.size ≤ p.block) (u : Value) : Keep q g a (w.setCell p u) :=
  ⟨h.os, h.tape, h.output, by simpa [World.setCell] using h.size, fun i hi h1 h2 => (Below.heap_setCell w p u i (by
    rintro rfl
    rcases hp with hp | hp | hp
    · exact h1 hp
    · exact h2 hp
    · omega)).trans (h.block i hi h1 h2)⟩
end

theorem Body.heap {w w' : World} {b n : Nat} {l : List UInt8} (h : Body w b n l) (hs : b < w'.heap.size) (e : w'.heap[b]? = w.heap[b]?) : Body w' b n l :=
  ⟨h.len, h.ascii, hs, fun i hi => (World.cell?_of_block (a := ⟨b, i, none⟩) e).trans (h.cell i hi)⟩
theorem Src.heap {w w' : World} {p b n cap : Nat} {l : List UInt8} (h : Src w p b n cap l) (hs : w.heap.size ≤ w'.heap.size) (e : w'.heap[b]? = w.heap[b]?) (e2 : w'.heap[p]? = w.heap[p]?) : Src w' p b n cap l :=
  ⟨h.body.heap (Nat.lt_of_lt_of_le h.body.lt hs) e, Nat.lt_of_lt_of_le h.lt hs, (World.cell?_of_block (a := ⟨p, 0, none⟩) e2).trans h.cell, h.cap⟩
theorem Vars.heap {w w' : World} {g h p i : Nat} (H : Vars w g h p i) (hs : w.heap.size ≤ w'.heap.size) (e : w'.heap[g]? = w.heap[g]?) (e2 : w'.heap[h]? = w.heap[h]?) : Vars w' g h p i :=
  ⟨(World.cell?_of_block (a := ⟨g, 0, none⟩) e).trans H.pos, (World.frozen?_of_block (a := ⟨g, 0, none⟩) e).trans H.free, (World.cell?_of_block (a := ⟨h, 0, none⟩) e2).trans H.src, Nat.lt_of_lt_of_le H.lg hs, Nat.lt_of_lt_of_le H.lh hs⟩

def pcells (g h p : Nat) (prev : Nat) (k : Int) (s e : Nat) (v : ByteArray) : Array Value :=
  #[.func (.func 132) #[] #[.pointer (some ⟨g, 0, none⟩), .pointer (some ⟨h, 0, none⟩)], .pointer (some ⟨p, 0, none⟩), .bool false, .bool false, .int .i64 (prev : Int), .int .i64 k, .int .i64 (s : Int), .int .i64 (e : Int), .string v]

/-- The parser (block q) over the text l: where its last token ended, and the token that it holds. -/
structure Ps (W : World) (q g h p b n cap : Nat) (l : List UInt8) (i prev : Nat) (k : Int) (s e : Nat) (v : ByteArray) : Prop where
  blk : Blk W q 59 (pcells g h p prev k s e v)
  vars : Vars W g h p i
  src : Src W p b n cap l
  gq : g < q
  hg : h < g
  ph : p < h
  bp : b < p

theorem Ps.heap {w w' : World} {q g h p b n cap : Nat} {l : List UInt8} {i prev : Nat} {k : Int} {s e : Nat} {v : ByteArray} (H : Ps w q g h p b n cap l i prev k s e v) (hs : w.heap.size ≤ w'.heap.size) (he : ∀ j, j ≤ q → w'.heap[j]? = w.heap[j]?) : Ps w' q g h p b n cap l i prev k s e v := by
  have h1 := H.gq
  have h2 := H.hg
  have h3 := H.ph
  have h4 := H.bp
  exact ⟨(he q (Nat.le_refl _)).trans H.blk, H.vars.heap hs (he g (by omega)) (he h (by omega)), H.src.heap hs (he b (by omega)) (he p (by omega)), h1, h2, h3, h4⟩
theorem Ps.below {w w' : World} {q g h p b n cap : Nat} {l : List UInt8} {i prev : Nat} {k : Int} {s e : Nat} {v : ByteArray} (H : Ps w q g h p b n cap l i prev k s e v) (hb : Below w.heap.size w w') : Ps w' q g h p b n cap l i prev k s e v :=
  H.heap hb.size (fun j hj => hb.block j (Nat.lt_of_le_of_lt hj (Blk.lt H.blk)))

theorem Ps.cells {W : World} {q g h p b n cap : Nat} {l : List UInt8} {i prev : Nat} {k : Int} {s e : Nat} {v : ByteArray} (H : Ps W q g h p b n cap l i prev k s e v) :
    W.cell? ⟨q, 0, none⟩ = some (.func (.func 132) #[] #[.pointer (some ⟨g, 0, none⟩), .pointer (some ⟨h, 0, none⟩)]) ∧ W.cell? ⟨q, 1, none⟩ = some (.pointer (some ⟨p, 0, none⟩)) ∧ W.cell? ⟨q, 2, none⟩ = some (.bool false) ∧ W.cell? ⟨q, 3, none⟩ = some (.bool false) ∧ W.cell? ⟨q, 4, none⟩ = some (.int .i64 (prev : Int)) ∧ W.cell? ⟨q, 5, none⟩ = some (.int .i64 k) ∧ W.cell? ⟨q, 6, none⟩ = some (.int .i64 (s : Int)) ∧ W.cell? ⟨q, 7, none⟩ = some (.int .i64 (e : Int)) ∧ W.cell? ⟨q, 8, none⟩ = some (.string v) := by
  refine ⟨?_, ?_, ?_, ?_, ?_, ?_, ?_, ?_, ?_⟩ <;> (rw [Blk.cell H.blk]; rfl)

end Go.Proofs.YtannihddhebcpaaGreatDoor
