/- THE THIN PACKAGE's taker: put. -/
import Derived.Test.YtannihddhebcpaaGreatDoorPsK
import Derived.Deep.RegionLaw
import Derived.Deep.RegionLawGrows
import Derived.Deep.DeepCutAuto
import Derived.StillTailTactics
namespace Go.Proofs.YtannihddhebcpaaGreatDoor
open Go.RowKit

/-- 'append' onto an own row, as one step of a region that draws its order (after the library's step for a row that grows). -/
theorem step_append_own {P : Program} {ops : Array Oper} {o : Oper} {a : Act} {w : World} {K : Act → World → Prop} {Q : Exit → Act → World → Prop} {E : Prop}
    (hg : o.guard = none) (s x : Operand) (t : TypeId) (hop : o.op = Op.call { callee := Callee.builtin Builtin.append, args := #[s, x], argTypes := #[t, t] })
    (base : Nat) (e : TypeId) (i : TypeInfo) (z : Value) (size bytes : Nat) (h1 : P.underlying t = some (.slice e)) (h2 : P.info? e = some i) (h3 : i.zero = some z) (h4 : i.size = size) (h5 : i.bytes = bytes) (h6 : z.cells.size = size) (h7 : 0 < size)
    (ao : Option Addr) (n cap : Nat) (olds : List Value) (hs : a.eval s = .slice ao n cap) (hown : w.ownsRow base e size (.slice ao n cap) n olds)
    (ad : Addr) (m c : Nat) (news : List Value) (hx : a.eval x = .slice (some ad) m c) (hn : news.length = m * size) (hc : ∀ j u, news[j]? = some u → w.cell? (ad.add j) = some u) (h1c : ∀ u ∈ news, u.oneCell' = true)
    (b1 : n + m ≤ maxLen) (b2 : (n + m) * bytes ≤ 140737488355328) (hbase : base ≤ w.heap.size)
    (hK : ∀ v' w', w'.ownsRow base e size v' (n + m) (olds ++ news) → w.grownBy w' (Value.slice ao n cap).ownBlock → K (a.put o.dst v') w') :
    if Region.wanted o (yielded ops a.tmps) = true then Oper.wp P o a w K Q else E := by
  have hw : Region.wanted o (yielded ops a.tmps) = true := by simp [Region.wanted, hg]
  rw [if_pos hw]
  obtain ⟨v', w', hrun, r1, r2, _⟩ := run_append_own (P := P) w base t o.type e i z size bytes h1 h2 h3 h4 h5 h6 h7 (.slice ao n cap) n olds hown ad m c news hn hc h1c b1 b2 hbase
  unfold Oper.wp
  simp [execOp, hop, resolve, invoke, builtin, hs, hx, hrun, Result.andThen]
  exact hK v' w' r1 r2

theorem own_ne {w : World} {b1 b2 s1 s2 n1 n2 : Nat} {e1 e2 : TypeId} {v1 v2 : Value} {x1 x2 : List Value} (h1 : w.ownsRow b1 e1 s1 v1 n1 x1) (h2 : w.ownsRow b2 e2 s2 v2 n2 x2) (hne : e1 ≠ e2) : v1.ownBlock = none ∨ v1.ownBlock ≠ v2.ownBlock := by
  obtain ⟨_, ⟨rfl, _⟩ | ⟨g1, c1, u1, rfl, _, hh1, _⟩⟩ := h1
  · exact .inl rfl
  · right
    obtain ⟨_, ⟨rfl, _⟩ | ⟨g2, c2, u2, rfl, _, hh2, _⟩⟩ := h2
    · simp [Value.ownBlock]
    · intro e
      have : g1 = g2 := by simpa [Value.ownBlock] using e
      subst this
      rw [hh1] at hh2
      injection hh2 with hh2
      injection hh2 with _ ht
      exact hne ht

/-- What a taker has: n nodes (their cells), n spans; its block t, its rows from B on. -/
structure Tak (W : World) (B t : Nat) (A : Option Addr) (c : Nat) (A2 : Option Addr) (c2 n m : Nat) (ds ss : List Value) : Prop where
  blk : Blk W t 43 #[.slice A n c, .slice A2 m c2, .bool false]
  d : W.ownsRow B 32 6 (.slice A n c) n ds
  sp : W.ownsRow B 145 2 (.slice A2 m c2) m ss
  tB : t < B
  hB : B ≤ W.heap.size

section
variable {W W' : World} {B t : Nat} {A : Option Addr} {c : Nat} {A2 : Option Addr} {c2 n m : Nat} {ds ss : List Value}
theorem own_below {base size n : Nat} {e : TypeId} {v : Value} {xs : List Value} (h : W.ownsRow base e size v n xs) (hb : Below W.heap.size W W') : W'.ownsRow base e size v n xs := by
  obtain ⟨h1, h2 | ⟨gg, cap, cur, hv, hl, hh, hr⟩⟩ := h
  · exact ⟨h1, .inl h2⟩
  · refine ⟨h1, .inr ⟨gg, cap, cur, hv, hl, ?_, hr⟩⟩
    exact (hb.block gg (Blk.lt (t := e) hh)).trans hh
theorem Tak.below (h : Tak W B t A c A2 c2 n m ds ss) (hb : Below W.heap.size W W') : Tak W' B t A c A2 c2 n m ds ss :=
  ⟨Blk.below h.blk hb (Blk.lt h.blk), own_below h.d hb, own_below h.sp hb, h.tB, Nat.le_trans h.hB hb.size⟩
theorem Tak.grownBlk (h : Tak W B t A c A2 c2 n m ds ss) (hg : W.grownBy W' (Value.slice A n c).ownBlock) : Blk W' t 43 #[.slice A n c, .slice A2 m c2, .bool false] :=
  Blk.grown h.blk hg (fun e => by have := (h.d.lt t e.symm).1; have := h.tB; omega)
theorem Tak.grownBlk2 (h : Tak W B t A c A2 c2 n m ds ss) (hg : W.grownBy W' (Value.slice A2 m c2).ownBlock) : Blk W' t 43 #[.slice A n c, .slice A2 m c2, .bool false] :=
  Blk.grown h.blk hg (fun e => by have := (h.sp.lt t e.symm).1; have := h.tB; omega)
/-- Behind the append to the nodes and its store. -/
theorem Tak.putD (h : Tak W B t A c A2 c2 n m ds ss) {A' c' : Nat} {xs : List Value} (ho : W'.ownsRow B 32 6 (.slice (some ⟨A', 0, none⟩) (n + 1) c') (n + 1) (ds ++ xs)) (hg : W.grownBy W' (Value.slice A n c).ownBlock) :
    Tak (W'.setCell ⟨t, 0, none⟩ (.slice (some ⟨A', 0, none⟩) (n + 1) c')) B t (some ⟨A', 0, none⟩) c' A2 c2 (n + 1) m (ds ++ xs) ss := by
  have ht := h.tB
  have hbt : Blk W' t 43 #[.slice A n c, .slice A2 m c2, .bool false] := Blk.grown h.blk hg (fun e => by have := (h.d.lt t e.symm).1; omega)
  refine ⟨Blk.set_ hbt 0 _, ownsRow_setCell_below ho ht _, ownsRow_setCell_below (h.sp.kept hg (own_ne h.sp h.d (by decide))) ht _, ht, ?_⟩
  have := h.hB
  have := hg.size
  simp [World.setCell]
  omega
theorem Tak.putS (h : Tak W B t A c A2 c2 n m ds ss) {A' c' : Nat} {xs : List Value} (ho : W'.ownsRow B 145 2 (.slice (some ⟨A', 0, none⟩) (m + 1) c') (m + 1) (ss ++ xs)) (hg : W.grownBy W' (Value.slice A2 m c2).ownBlock) :
    Tak (W'.setCell ⟨t, 1, none⟩ (.slice (some ⟨A', 0, none⟩) (m + 1) c')) B t A c (some ⟨A', 0, none⟩) c' n (m + 1) ds (ss ++ xs) := by
  have ht := h.tB
  have hbt : Blk W' t 43 #[.slice A n c, .slice A2 m c2, .bool false] := Blk.grown h.blk hg (fun e => by have := (h.sp.lt t e.symm).1; omega)
  refine ⟨Blk.set_ hbt 1 _, ownsRow_setCell_below (h.d.kept hg (own_ne h.d h.sp (by decide))) ht _, ownsRow_setCell_below ho ht _, ht, ?_⟩
  have := h.hB
  have := hg.size
  simp [World.setCell]
  omega
theorem Tak.low {base size n' : Nat} {e : TypeId} {v : Value} {xs : List Value} {w : World} {C : Nat} (hb : Below C w W) (hC : C ≤ t) (hCw : C ≤ w.heap.size) (ho : W.ownsRow base e size v n' xs) (hbase : t < base) (hg : W.grownBy W' v.ownBlock) (j : Nat) (u : Value) : Below C w (W'.setCell ⟨t, j, none⟩ u) := by
  refine Below.setCell ⟨hg.os.trans hb.os, hg.tape.trans hb.tape, hg.output.trans hb.output, Nat.le_trans hb.size hg.size, fun i hi => (hg.block i (Nat.lt_of_lt_of_le (Nat.lt_of_lt_of_le hi hCw) hb.size) (fun e => by have := (ho.lt i e.symm).1; omega)).trans (hb.block i hi)⟩ hC u
end

end Go.Proofs.YtannihddhebcpaaGreatDoor
