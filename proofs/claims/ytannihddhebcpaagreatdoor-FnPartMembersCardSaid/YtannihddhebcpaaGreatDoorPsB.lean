/- THE PARSER: what is known behind a call of the closure. -/
import Derived.Test.YtannihddhebcpaaGreatDoorPsA
namespace Go.Proofs.YtannihddhebcpaaGreatDoor
open Go.RowKit

theorem only_drew1 {a w : World} {row : Option Nat} (h : a.grownBy w row) : a.grownBy w.drew row := ⟨h.os, h.tape, h.output, h.size, h.block⟩

/-- A box that was laid ahead of a call that turns block g alone. -/
theorem box_after {X w' : World} {g : Nat} {c0 c1 c2 c3 : Value} {t : TypeId} (h : ((X.alloc (.cells #[c0, c1, c2, c3] t)).drew).grownBy w' (some g)) (hg : g < X.heap.size) : Blk w' X.heap.size t #[c0, c1, c2, c3] :=
  Blk.grown (Blk.drew (Blk.new X t #[c0, c1, c2, c3])) h (by intro e; injection e with e; omega)

/-- Four cells of a block. -/
theorem blk4 {w : World} {z : Nat} {t : TypeId} {c0 c1 c2 c3 : Value} (h : Blk w z t #[c0, c1, c2, c3]) : w.cell? ⟨z, 0, none⟩ = some c0 ∧ w.cell? ⟨z, 1, none⟩ = some c1 ∧ w.cell? ⟨z, 2, none⟩ = some c2 ∧ w.cell? ⟨z, 3, none⟩ = some c3 ∧ (∀ o, w.frozen? ⟨z, o, none⟩ = false) :=
  ⟨by rw [Blk.cell h]; rfl, by rw [Blk.cell h]; rfl, by rw [Blk.cell h]; rfl, by rw [Blk.cell h]; rfl, fun o => Blk.frozen h o⟩

theorem heap_set4 (w : World) (z : Nat) (i0 i1 i2 i3 : Nat) (a b c d : Value) (j : Nat) (hj : j ≠ z) : ((((w.setCell ⟨z, i0, none⟩ a).setCell ⟨z, i1, none⟩ b).setCell ⟨z, i2, none⟩ c).setCell ⟨z, i3, none⟩ d).heap[j]? = w.heap[j]? := by
  rw [Below.heap_setCell _ ⟨z, i3, none⟩ d j hj, Below.heap_setCell _ ⟨z, i2, none⟩ c j hj, Below.heap_setCell _ ⟨z, i1, none⟩ b j hj, Below.heap_setCell _ ⟨z, i0, none⟩ a j hj]
theorem size_set4 (w : World) (z : Nat) (i0 i1 i2 i3 : Nat) (a b c d : Value) : ((((w.setCell ⟨z, i0, none⟩ a).setCell ⟨z, i1, none⟩ b).setCell ⟨z, i2, none⟩ c).setCell ⟨z, i3, none⟩ d).heap.size = w.heap.size := by
  simp [World.setCell]

/-- Behind the closure's call: the token in a box z, the parser's place set. -/
structure Got (W w : World) (q g h p z : Nat) (e : Nat) (k2 : Int) (s2 e2 : Nat) (v2 : ByteArray) : Prop where
  tok : Blk w z 52 #[.int .i64 k2, .int .i64 (s2 : Int), .int .i64 (e2 : Int), .string v2]
  blk : ∃ k s, ∃ (v : ByteArray), Blk w q 59 (pcells g h p e k s e v)
  pos : w.cell? ⟨g, 0, none⟩ = some (.int .i64 (e2 : Int))
  free : w.frozen? ⟨g, 0, none⟩ = false
  keep : Keep q g W w
  zq : W.heap.size ≤ z

theorem Keep.of_q {q g : Nat} {a w : World} (h : a.grownBy w (some q)) : Keep q g a w := ⟨h.os, h.tape, h.output, h.size, fun i hi h1 _ => h.block i hi (by intro e; injection e with e; exact h1 e)⟩

section
variable {W W2 w' : World} {q g h p e : Nat} {k2 : Int} {s2 e2 : Nat} {v2 : ByteArray} {k : Int} {s : Nat} {v : ByteArray}
theorem Got.newBox (hb : Blk w' q 59 (pcells g h p e k s e v)) (hg : w'.cell? ⟨g, 0, none⟩ = some (.int .i64 (e2 : Int)) ∧ w'.frozen? ⟨g, 0, none⟩ = false ∧ W.grownBy W2 (some q) ∧ W2.grownBy w' (some g)) (hgl : g < W.heap.size) :
    Got W (w'.alloc (.cells #[.int .i64 k2, .int .i64 (s2 : Int), .int .i64 (e2 : Int), .string v2] 52)) q g h p w'.heap.size e k2 s2 e2 v2 := by
  obtain ⟨g0, g1, kq, kg⟩ := hg
  have hs1 := kq.size
  have hs2 := kg.size
  refine ⟨Blk.new w' 52 _, ⟨k, s, v, Blk.alloc hb _⟩, ?_, ?_, ((Keep.of_q kq).trans (Keep.of_only kg)).alloc _, by omega⟩
  · rw [World.cell?_alloc_past _ _ _ (show g < w'.heap.size by omega)]; exact g0
  · rw [World.frozen?_alloc_past _ _ _ (show g < w'.heap.size by omega)]; exact g1
theorem Got.oldBox {x0 x1 x2 x3 : Value} (hx : Blk w' W.heap.size 52 #[x0, x1, x2, x3]) (hb : Blk w' q 59 (pcells g h p e k s e v)) (hg : w'.cell? ⟨g, 0, none⟩ = some (.int .i64 (e2 : Int)) ∧ w'.frozen? ⟨g, 0, none⟩ = false ∧ W.grownBy W2 (some q) ∧ W2.grownBy w' (some g)) (hgl : g < W.heap.size) (hql : q < W.heap.size) :
    Got W ((((w'.setCell ⟨W.heap.size, 0, none⟩ (.int .i64 k2)).setCell ⟨W.heap.size, 1, none⟩ (.int .i64 (s2 : Int))).setCell ⟨W.heap.size, 2, none⟩ (.int .i64 (e2 : Int))).setCell ⟨W.heap.size, 3, none⟩ (.string v2)) q g h p W.heap.size e k2 s2 e2 v2 := by
  obtain ⟨g0, g1, kq, kg⟩ := hg
  have hk : Keep q g W w' := (Keep.of_q kq).trans (Keep.of_only kg)
  refine ⟨?_, ⟨k, s, v, ?_⟩, ?_, ?_, (((hk.setCell (.inr (.inr (Nat.le_refl _))) _).setCell (.inr (.inr (Nat.le_refl _))) _).setCell (.inr (.inr (Nat.le_refl _))) _).setCell (.inr (.inr (Nat.le_refl _))) _, Nat.le_refl _⟩
  · exact Blk.set_ (Blk.set_ (Blk.set_ (Blk.set_ hx 0 (.int .i64 k2)) 1 (.int .i64 (s2 : Int))) 2 (.int .i64 (e2 : Int))) 3 (.string v2)
  · exact (heap_set4 w' W.heap.size 0 1 2 3 _ _ _ _ q (by omega)).trans hb
  · exact (World.cell?_of_block (a := ⟨g, 0, none⟩) (heap_set4 w' W.heap.size 0 1 2 3 _ _ _ _ g (by omega))).trans g0
  · exact (World.frozen?_of_block (a := ⟨g, 0, none⟩) (heap_set4 w' W.heap.size 0 1 2 3 _ _ _ _ g (by omega))).trans g1
end

/-- The parser holds the token. -/
theorem Ps.ofGot {W wc : World} {q g h p b n cap : Nat} {l : List UInt8} {i prev : Nat} {k : Int} {s e z : Nat} {v : ByteArray} {k2 : Int} {s2 e2 : Nat} {v2 : ByteArray} (H : Ps W q g h p b n cap l i prev k s e v) (hG : Got W wc q g h p z e k2 s2 e2 v2) :
    Ps ((((wc.setCell ⟨q, 5, none⟩ (.int .i64 k2)).setCell ⟨q, 6, none⟩ (.int .i64 (s2 : Int))).setCell ⟨q, 7, none⟩ (.int .i64 (e2 : Int))).setCell ⟨q, 8, none⟩ (.string v2)) q g h p b n cap l e2 e k2 s2 e2 v2 ∧
    Keep q g W ((((wc.setCell ⟨q, 5, none⟩ (.int .i64 k2)).setCell ⟨q, 6, none⟩ (.int .i64 (s2 : Int))).setCell ⟨q, 7, none⟩ (.int .i64 (e2 : Int))).setCell ⟨q, 8, none⟩ (.string v2)) := by
  have h1 := H.gq
  have h2 := H.hg
  have h3 := H.ph
  have h4 := H.bp
  have hlt := Blk.lt H.blk
  obtain ⟨k0, s0, v0, hb⟩ := hG.blk
  have hs := hG.keep.size
  have hz := size_set4 wc q 5 6 7 8 (.int .i64 k2) (.int .i64 (s2 : Int)) (.int .i64 (e2 : Int)) (.string v2)
  have hh := fun j (hj : j ≠ q) => heap_set4 wc q 5 6 7 8 (.int .i64 k2) (.int .i64 (s2 : Int)) (.int .i64 (e2 : Int)) (.string v2) j hj
  have hk := (((hG.keep.setCell (p := ⟨q, 5, none⟩) (.inl rfl) (.int .i64 k2)).setCell (p := ⟨q, 6, none⟩) (.inl rfl) (.int .i64 (s2 : Int))).setCell (p := ⟨q, 7, none⟩) (.inl rfl) (.int .i64 (e2 : Int))).setCell (p := ⟨q, 8, none⟩) (.inl rfl) (.string v2)
  refine ⟨⟨?_, ⟨?_, ?_, ?_, by omega, by omega⟩, ?_, h1, h2, h3, h4⟩, hk⟩
  · exact Blk.set_ (Blk.set_ (Blk.set_ (Blk.set_ hb 5 (.int .i64 k2)) 6 (.int .i64 (s2 : Int))) 7 (.int .i64 (e2 : Int))) 8 (.string v2)
  · exact (World.cell?_of_block (a := ⟨g, 0, none⟩) (hh g (by omega))).trans hG.pos
  · exact (World.frozen?_of_block (a := ⟨g, 0, none⟩) (hh g (by omega))).trans hG.free
  · exact (World.cell?_of_block (a := ⟨h, 0, none⟩) (hk.block h (by omega) (by omega) (by omega))).trans H.vars.src
  · exact H.src.heap hk.size (hk.block b (by omega) (by omega) (by omega)) (hk.block p (by omega) (by omega) (by omega))

end Go.Proofs.YtannihddhebcpaaGreatDoor
