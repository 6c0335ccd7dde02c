/- THE REFERENCE: SameDocument at two lists of the same names. -/
import Derived.Test.YtannihddhebcpaaGreatDoorPsO
namespace Go.Proofs.YtannihddhebcpaaGreatDoor
open Go.RowKit

theorem nodes_len (k : Int) : ∀ l : List ByteArray, (nodes k l).length = l.length * 6
  | [] => rfl
  | v :: r => by
    show (node1 k v ++ nodes k r).length = (r.length + 1) * 6
    rw [List.length_append, nodes_len k r]
    simp [node1]
    omega
theorem nodes_get (k : Int) : ∀ (l : List ByteArray) (i j : Nat) (h : i < l.length), j < 6 → (nodes k l)[i * 6 + j]? = (node1 k l[i])[j]?
  | v :: r, 0, j, _, hj => by
    show (node1 k v ++ nodes k r)[0 * 6 + j]? = _
    rw [Nat.zero_mul, Nat.zero_add, List.getElem?_append_left (by simpa [node1] using hj)]
    rfl
  | v :: r, i + 1, j, h, hj => by
    have hl : (node1 k v).length = 6 := rfl
    show (node1 k v ++ nodes k r)[(i + 1) * 6 + j]? = _
    rw [List.getElem?_append_right (by omega), hl, show (i + 1) * 6 + j - 6 = i * 6 + j by omega]
    exact nodes_get k r i j (by simpa using h) hj

def nodeC (k : Int) (v : ByteArray) : Array Value := #[.int .i64 k, .string v, .string ⟨#[]⟩, .string ⟨#[]⟩, .int .i64 0, .int .i64 1]

/-- A node's six cells at a place. -/
def SixAt (w : World) (g o : Nat) (k : Int) (v : ByteArray) : Prop := w.cell? ⟨g, o, none⟩ = some (.int .i64 k) ∧ w.cell? ⟨g, o + 1, none⟩ = some (.string v) ∧ w.cell? ⟨g, o + 2, none⟩ = some (.string ⟨#[]⟩) ∧ w.cell? ⟨g, o + 3, none⟩ = some (.string ⟨#[]⟩) ∧ w.cell? ⟨g, o + 4, none⟩ = some (.int .i64 0) ∧ w.cell? ⟨g, o + 5, none⟩ = some (.int .i64 1)

theorem six_of {w : World} {B g c n : Nat} {k : Int} {l : List ByteArray} (h : w.ownsRow B 32 6 (.slice (some ⟨g, 0, none⟩) n c) n (nodes k l)) (hl : l.length = n) (i : Nat) (hi : i < l.length) : SixAt w g (i * 6) k l[i] := by
  have f := fun j (hj : j < 6) => (h.cellAt (i * 6 + j) (by omega)).trans (nodes_get k l i j hi hj)
  exact ⟨f 0 (by omega), f 1 (by omega), f 2 (by omega), f 3 (by omega), f 4 (by omega), f 5 (by omega)⟩
theorem SixAt.below {w w' : World} {B g o : Nat} {k : Int} {v : ByteArray} (h : SixAt w g o k v) (hb : Below B w w') (hg : g < B) : SixAt w' g o k v := by
  obtain ⟨a, b, c, d, e, f⟩ := h
  exact ⟨(hb.cell (p := ⟨g, _, none⟩) hg).trans a, (hb.cell (p := ⟨g, _, none⟩) hg).trans b, (hb.cell (p := ⟨g, _, none⟩) hg).trans c, (hb.cell (p := ⟨g, _, none⟩) hg).trans d, (hb.cell (p := ⟨g, _, none⟩) hg).trans e, (hb.cell (p := ⟨g, _, none⟩) hg).trans f⟩

theorem blk6 {w : World} {z : Nat} {t : TypeId} {c0 c1 c2 c3 c4 c5 : Value} (h : Blk w z t #[c0, c1, c2, c3, c4, c5]) : w.cell? ⟨z, 0, none⟩ = some c0 ∧ w.cell? ⟨z, 1, none⟩ = some c1 ∧ w.cell? ⟨z, 2, none⟩ = some c2 ∧ w.cell? ⟨z, 3, none⟩ = some c3 ∧ w.cell? ⟨z, 4, none⟩ = some c4 ∧ w.cell? ⟨z, 5, none⟩ = some c5 ∧ (∀ o, w.frozen? ⟨z, o, none⟩ = false) :=
  ⟨by rw [Blk.cell h]; rfl, by rw [Blk.cell h]; rfl, by rw [Blk.cell h]; rfl, by rw [Blk.cell h]; rfl, by rw [Blk.cell h]; rfl, by rw [Blk.cell h]; rfl, fun o => Blk.frozen h o⟩

theorem two_boxes (w : World) (k : Int) (v : ByteArray) : Blk ((w.alloc (.cells (nodeC k v) 32)).alloc (.cells (nodeC k v) 32)).drew w.heap.size 32 (nodeC k v) ∧ Blk ((w.alloc (.cells (nodeC k v) 32)).alloc (.cells (nodeC k v) 32)).drew (w.heap.size + 1) 32 (nodeC k v) := by
  refine ⟨Blk.alloc (Blk.new w 32 (nodeC k v)) _, ?_⟩
  have h := Blk.new (w.alloc (.cells (nodeC k v) 32)) 32 (nodeC k v)
  rw [show (w.alloc (.cells (nodeC k v) 32)).heap.size = w.heap.size + 1 by simp] at h
  exact h
theorem two_below {B : Nat} {W w : World} {o o' : Obj} (h : Below B W w) (hB : B ≤ w.heap.size) : Below B W ((w.alloc o).alloc o').drew := ((h.alloc hB o).alloc (by simp; omega) o').drew

set_option maxHeartbeats 3200000 in
set_option maxRecDepth 100000 in
theorem same_any {W : World} {B1 B2 : Nat} {A1 A2 : Option Addr} {c1 c2 n : Nat} (l : List ByteArray) (hl : l.length = n) (h0 : 0 < n) (hn : n ≤ 2000) (h1 : W.ownsRow B1 32 6 (.slice A1 n c1) n (nodes 33 l)) (h2 : W.ownsRow B2 32 6 (.slice A2 n c2) n (nodes 33 l)) :
    Calls Tryz.prog 7 #[.slice A1 n c1, .slice A2 n c2] W fun x w' => x = .returned (.bool true) ∧ Below W.heap.size W w' := by
  obtain ⟨g1, cap1, hv1⟩ := Joins.ownsRow_form h1 h0
  obtain ⟨g2, cap2, hv2⟩ := Joins.ownsRow_form h2 h0
  rw [hv1] at h1 ⊢
  rw [hv2] at h2 ⊢
  have hg1 := (h1.lt g1 rfl).2
  have hg2 := (h2.lt g2 rfl).2
  have H1 := Lib.hid (fun i (hi : i < l.length) => six_of h1 hl i hi)
  have H2 := Lib.hid (fun i (hi : i < l.length) => six_of h2 hl i hi)
  have hc1 : n ≤ cap1 := by
    obtain ⟨_, h | ⟨gg, cap, cur, hv, _, _, hr, _⟩⟩ := h1
    · omega
    · injection hv with _ _ hc; omega
  have hc2 : n ≤ cap2 := by
    obtain ⟨_, h | ⟨gg, cap, cur, hv, _, _, hr, _⟩⟩ := h2
    · omega
    · injection hv with _ _ hc; omega
  have HL := Lib.hid hl
  clear h1 h2 hv1 hv2 hl
  go_enter Tryz.func7, Tryz.ntmps7
  go_wp2_with fail
  go_loopg [5] n (fun m u wr => ∃ i : Nat, u = .int .i64 (i : Int) ∧ m = n - i ∧ i ≤ n ∧ Hid (Below W.heap.size W wr))
  case atStart => exact ⟨0, rfl, rfl, by omega, Below.refl _ _⟩
  case round =>
    obtain ⟨i, rfl, rfl, hi, HB⟩ := hrel
    by_cases hlt : i < n
    · have hl := HL.out
      have hx := (H1.out i (by omega)).below HB.out hg1
      have hy := (H2.out i (by omega)).below HB.out hg2
      generalize l[i] = v at hx hy
      obtain ⟨x0, x1, x2, x3, x4, x5⟩ := hx
      obtain ⟨y0, y1, y2, y3, y4, y5⟩ := hy
      have hs := HB.out.size
      have k1 : ∀ j o, (wr.alloc o).cell? ⟨g1, j, none⟩ = wr.cell? ⟨g1, j, none⟩ := fun j o => World.cell?_alloc_past _ _ _ (show g1 < wr.heap.size by omega)
      have k2 : ∀ j o, (wr.alloc o).cell? ⟨g2, j, none⟩ = wr.cell? ⟨g2, j, none⟩ := fun j o => World.cell?_alloc_past _ _ _ (show g2 < wr.heap.size by omega)
      have k3 : ∀ j o o', ((wr.alloc o).alloc o').cell? ⟨g1, j, none⟩ = wr.cell? ⟨g1, j, none⟩ := fun j o o' => (World.cell?_alloc_past _ _ _ (show g1 < (wr.alloc o).heap.size by simp; omega)).trans (k1 j o)
      have k4 : ∀ j o o', ((wr.alloc o).alloc o').cell? ⟨g2, j, none⟩ = wr.cell? ⟨g2, j, none⟩ := fun j o o' => (World.cell?_alloc_past _ _ _ (show g2 < (wr.alloc o).heap.size by simp; omega)).trans (k2 j o)
      clear hl hs
      go_upto_region 6 with fail
      go_cut [6, 7] (fun s t wx => ∃ a b, s = .pointer (some ⟨a, 0, none⟩) ∧ t = .pointer (some ⟨b, 0, none⟩) ∧ a ≠ b ∧ W.heap.size ≤ a ∧ W.heap.size ≤ b ∧ Hid (Blk wx a 32 (nodeC 33 v)) ∧ Hid (Blk wx b 32 (nodeC 33 v)) ∧ Hid (Below W.heap.size W wx))
      case first =>
        go_region
        all_goals
          go_wp2_with fail
          go_meet
          first
            | exact ⟨_, _, rfl, rfl, by omega, HB.out.size, Nat.le_succ_of_le HB.out.size, (two_boxes wr 33 v).1, (two_boxes wr 33 v).2, two_below HB.out HB.out.size⟩
            | exact ⟨_, _, rfl, rfl, by omega, Nat.le_succ_of_le HB.out.size, HB.out.size, (two_boxes wr 33 v).2, (two_boxes wr 33 v).1, two_below HB.out HB.out.size⟩
      case rest =>
        obtain ⟨a, b, rfl, rfl, hab, ha, hb, HA, HC, HBW⟩ := hcut
        clear x0 x1 x2 x3 x4 x5 y0 y1 y2 y3 y4 y5 k1 k2 k3 k4
        have hA1 : Blk (wc.setCell ⟨a, 4, none⟩ (.int .i64 0)) a 32 (nodeC 33 v) := Blk.set_ HA.out 4 (.int .i64 0)
        have hC1 : Blk (wc.setCell ⟨a, 4, none⟩ (.int .i64 0)) b 32 (nodeC 33 v) := Blk.far HC.out (Ne.symm hab) _
        have hA2 : Blk ((wc.setCell ⟨a, 4, none⟩ (.int .i64 0)).setCell ⟨b, 4, none⟩ (.int .i64 0)) a 32 (nodeC 33 v) := Blk.far hA1 hab _
        have hC2 : Blk ((wc.setCell ⟨a, 4, none⟩ (.int .i64 0)).setCell ⟨b, 4, none⟩ (.int .i64 0)) b 32 (nodeC 33 v) := Blk.set_ hC1 4 (.int .i64 0)
        obtain ⟨p0, p1, p2, p3, p4, p5, pf⟩ := blk6 HA.out
        obtain ⟨q0, q1, q2, q3, q4, q5, qf⟩ := blk6 hC1
        obtain ⟨r0, r1, r2, r3, r4, r5, rf⟩ := blk6 hA2
        obtain ⟨s0, s1, s2, s3, s4, s5, sf⟩ := blk6 hC2
        clear hA1 hC1 hA2 hC2
        have HBZ := Lib.hid ((HBW.out.setCell (p := ⟨a, 4, none⟩) ha (.int .i64 0)).setCell (p := ⟨b, 4, none⟩) hb (.int .i64 0))
        go_wp2_with fail
        go_roundg (n - (i + 1))
        case measure => omega
        case rel => exact ⟨i + 1, by go_num, rfl, by omega, HBZ⟩
    · obtain rfl : i = n := by omega
      go_wp2_with fail
      go_ret
      exact ⟨rfl, HB.out⟩

end Go.Proofs.YtannihddhebcpaaGreatDoor
