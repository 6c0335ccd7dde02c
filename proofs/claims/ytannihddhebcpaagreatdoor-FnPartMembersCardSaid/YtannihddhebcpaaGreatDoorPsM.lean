/- THE THIN PACKAGE's taker: put adds a node. -/
import Derived.Test.YtannihddhebcpaaGreatDoorPsL
namespace Go.Proofs.YtannihddhebcpaaGreatDoor
open Go.RowKit

theorem info32 : (Tryz.prog.info? 32).map (fun i => (i.zero, i.size, i.bytes)) = some (some (.agg #[.int .i64 0, .string ⟨#[]⟩, .string ⟨#[]⟩, .string ⟨#[]⟩, .int .i64 0, .int .i64 0]), 6, 72) := by kernel_rfl
theorem info145 : (Tryz.prog.info? 145).map (fun i => (i.zero, i.size, i.bytes)) = some (some (.agg #[.int .i64 0, .int .i64 0]), 2, 16) := by kernel_rfl

def node0 (k : Int) (v : ByteArray) : List Value := [.int .i64 k, .string v, .string ⟨#[]⟩, .string ⟨#[]⟩, .int .i64 0, .int .i64 0]
def node1 (k : Int) (v : ByteArray) : List Value := [.int .i64 k, .string v, .string ⟨#[]⟩, .string ⟨#[]⟩, .int .i64 0, .int .i64 1]

theorem Tak.lowD {W : World} {B t A' c : Nat} {A2 : Option Addr} {c2 n m : Nat} {ds ss : List Value} (h : Tak W B t (some ⟨A', 0, none⟩) c A2 c2 n m ds ss) (ht : t < B) : t ≤ A' := by
  have := (h.d.lt A' rfl).1
  omega
/-- Behind the store of the size. -/
theorem Tak.sized {W : World} {B t A' c : Nat} {A2 : Option Addr} {c2 n m : Nat} {ds ss : List Value} {k : Int} {v : ByteArray} (h : Tak W B t (some ⟨A', 0, none⟩) c A2 c2 (n + 1) m (ds ++ node0 k v) ss) (hl : ds.length = n * 6) :
    Tak ((W.setCell ⟨A', n * 6 + 5, none⟩ (.int .i64 1)).drew) B t (some ⟨A', 0, none⟩) c A2 c2 (n + 1) m (ds ++ node1 k v) ss := by
  obtain ⟨h1, h2⟩ := h.d.stored (n * 6 + 5) (.int .i64 1)
  have hlt := (h.d.lt A' rfl).1
  have htB := h.tB
  have hset : (ds ++ node0 k v).set (n * 6 + 5) (.int .i64 1) = ds ++ node1 k v := by
    rw [List.set_append_right _ _ (by omega), hl, show n * 6 + 5 - n * 6 = 5 by omega]
    rfl
  rw [hset] at h1
  exact ⟨Blk.far h.blk (show t ≠ A' by omega) _, h1.drew, (h.sp.kept h2 (own_ne h.sp h.d (by decide))).drew, htB, by have := h.hB; show B ≤ (World.setCell _ _ _).heap.size; simpa [World.setCell] using this⟩

theorem six_cells (W : World) (l : List Value) (o : TypeId) : ∀ j u, l[j]? = some u → (W.alloc (.cells l.toArray o)).cell? ((⟨W.heap.size, 0, none⟩ : Addr).add j) = some u := by
  intro j u hj
  rw [Lib.addr_add, Nat.zero_add, World.cell?_alloc_at _ _ _ _ rfl]
  simpa using hj

set_option maxHeartbeats 3200000 in
set_option maxRecDepth 100000 in
theorem put_any {W : World} {B t : Nat} {A : Option Addr} {c : Nat} {A2 : Option Addr} {c2 n : Nat} {ds ss : List Value} (T : Tak W B t A c A2 c2 n n ds ss) {lc : Nat} {p0 : Option Addr} {a b : Int} (hL : Blk W lc 144 #[.int .i64 a, .int .i64 b, .pointer p0]) (k : Int) (v : ByteArray) (hn : n ≤ 2000) :
    Calls Tryz.prog 19 #[.pointer (some ⟨t, 0, none⟩), .pointer (some ⟨lc, 0, none⟩), .agg #[.int .i64 k, .string v, .string ⟨#[]⟩, .string ⟨#[]⟩, .int .i64 0, .int .i64 0], .nilFunc] W fun x w' => x = .returned (.tuple #[]) ∧ ∃ A' c' A2' c2' ss', Tak w' B t A' c' A2' c2' (n + 1) (n + 1) (ds ++ node1 k v) ss' ∧ Below t W w' := by
  obtain ⟨i0, hi0, hz0, hz1, hz2⟩ := info_parts info32
  obtain ⟨i1, hi1, hy0, hy1, hy2⟩ := info_parts info145
  have hT1 := T.below ((Below.refl W.heap.size W).alloc (Nat.le_refl _) (.cells #[.int .i64 k, .string v, .string ⟨#[]⟩, .string ⟨#[]⟩, .int .i64 0, .int .i64 0] 32))
  have hL1 := Blk.alloc hL (.cells #[.int .i64 k, .string v, .string ⟨#[]⟩, .string ⟨#[]⟩, .int .i64 0, .int .i64 0] 32)
  have ht := T.tB
  have hBW := T.hB
  have hlc := Blk.lt hL
  obtain ⟨t0, t1, t2, tf⟩ := blk3 T.blk
  have htl : t < W.heap.size := by omega
  have HT := Lib.hid T
  have HT0 : Hid (ds.length = n * 6) := T.d.1
  have HT1 := Lib.hid hT1
  have HL := Lib.hid hL1
  -- the world at the append: the node's box, the slice of one node
  have hX : (W.alloc (.cells #[.int .i64 k, .string v, .string ⟨#[]⟩, .string ⟨#[]⟩, .int .i64 0, .int .i64 0] 32)).heap.size = W.heap.size + 1 := by simp
  have HO := Lib.hid ((hT1.d.alloc (.cells #[.int .i64 k, .string v, .string ⟨#[]⟩, .string ⟨#[]⟩, .int .i64 0, .int .i64 0] 32)).drew)
  have HN : Hid (∀ j u, (node0 k v)[j]? = some u → (((W.alloc (.cells #[.int .i64 k, .string v, .string ⟨#[]⟩, .string ⟨#[]⟩, .int .i64 0, .int .i64 0] 32)).alloc (.cells #[.int .i64 k, .string v, .string ⟨#[]⟩, .string ⟨#[]⟩, .int .i64 0, .int .i64 0] 32)).drew).cell? ((⟨W.heap.size + 1, 0, none⟩ : Addr).add j) = some u) := by
    have h := six_cells (W.alloc (.cells #[.int .i64 k, .string v, .string ⟨#[]⟩, .string ⟨#[]⟩, .int .i64 0, .int .i64 0] 32)) (node0 k v) 32
    rw [hX] at h
    exact h
  have H1 : Hid (∀ u ∈ node0 k v, u.oneCell' = true) := by
    intro u hu
    simp [node0] at hu
    rcases hu with rfl | rfl | rfl | rfl | rfl <;> rfl
  have HM : Hid (n + 1 ≤ maxLen) := by unfold Hid maxLen; omega
  have HBB : Hid (B ≤ (((W.alloc (.cells #[.int .i64 k, .string v, .string ⟨#[]⟩, .string ⟨#[]⟩, .int .i64 0, .int .i64 0] 32)).alloc (.cells #[.int .i64 k, .string v, .string ⟨#[]⟩, .string ⟨#[]⟩, .int .i64 0, .int .i64 0] 32)).drew).heap.size) := by
    show B ≤ (World.alloc _ _).heap.size
    simp
    omega
  have HTX := Lib.hid ((hT1.below ((Below.refl _ _).alloc (Nat.le_refl _) (.cells #[.int .i64 k, .string v, .string ⟨#[]⟩, .string ⟨#[]⟩, .int .i64 0, .int .i64 0] 32))).below (W' := ((W.alloc (.cells #[.int .i64 k, .string v, .string ⟨#[]⟩, .string ⟨#[]⟩, .int .i64 0, .int .i64 0] 32)).alloc (.cells #[.int .i64 k, .string v, .string ⟨#[]⟩, .string ⟨#[]⟩, .int .i64 0, .int .i64 0] 32)).drew) (Below.refl _ _).drew)
  have HLX := Lib.hid (show Blk ((W.alloc (.cells #[.int .i64 k, .string v, .string ⟨#[]⟩, .string ⟨#[]⟩, .int .i64 0, .int .i64 0] 32)).alloc (.cells #[.int .i64 k, .string v, .string ⟨#[]⟩, .string ⟨#[]⟩, .int .i64 0, .int .i64 0] 32)).drew lc 144 _ from Blk.alloc hL1 _)
  have HBX : Hid (Below t W ((W.alloc (.cells #[.int .i64 k, .string v, .string ⟨#[]⟩, .string ⟨#[]⟩, .int .i64 0, .int .i64 0] 32)).alloc (.cells #[.int .i64 k, .string v, .string ⟨#[]⟩, .string ⟨#[]⟩, .int .i64 0, .int .i64 0] 32)).drew) := (((Below.refl t W).alloc (by omega) _).alloc (by simp; omega) _).drew
  clear T hL hT1 hL1 hX
  go_enter Tryz.func19, Tryz.ntmps19
  go_upto_region 2 with fail
  go_cut [] (fun wx => ∃ A' c', Hid (Tak wx B t (some ⟨A', 0, none⟩) c' A2 c2 (n + 1) n (ds ++ node0 k v) ss) ∧ Hid (Blk wx lc 144 #[.int .i64 a, .int .i64 b, .pointer p0]) ∧ Hid (Below t W wx))
  case first =>
    go_region_law (refine step_append_own rfl (.tmp 18) (.tmp 20) 24 rfl B 32 i0 _ 6 72 Tryz.underlying24 hi0 hz0 hz1 hz2 rfl (by decide) A n c ds (by simp [Act.eval]) HO.out ⟨W.heap.size + 1, 0, none⟩ 1 1 (node0 k v) (by simp [Act.eval]) rfl HN.out H1.out HM.out (by omega) HBB.out ?_; intro v' w' hown hgrow; obtain ⟨r, cap, hv⟩ := Joins.ownsRow_form hown (by omega); subst hv; have hbt := HTX.out.grownBlk hgrow; obtain ⟨e0, e1, e2, ef⟩ := blk3 hbt; have HOW := Lib.hid hown; have HG := Lib.hid hgrow; have HBT := Lib.hid hbt; clear hown hgrow hbt)
    all_goals
      go_wp2_with fail
      go_meet
      exact ⟨_, _, HTX.out.putD HOW.out HG.out, (Blk.far (Blk.grown HLX.out HG.out (own_blk_ne HTX.out.d HLX.out (by decide)).symm) (Ne.symm (Blk.ne_ HTX.out.blk HLX.out (by decide))) _), Tak.low HBX.out (Nat.le_refl _) (Nat.le_of_lt htl) HTX.out.d ht HG.out 0 _⟩
  case rest =>
    obtain ⟨A', c', HTK, HLK, HBK⟩ := hcut
    clear HO HN H1 HM HBB HTX HLX HBX HT HT1 HL t0 t1 t2 tf
    obtain ⟨t0, t1, t2, tf⟩ := blk3 HTK.out.blk
    obtain ⟨l0, l1, l2, lf⟩ := blk3 HLK.out
    have hBc := HTK.out.hB
    have htc : t < wc.heap.size := by omega
    have HBS := Lib.hid HBK.out.size
    have HO5 := Lib.hid ((HTK.out.sp.alloc (.cells #[.int .i64 a, .int .i64 b] 145)).drew)
    have HN5 : Hid (∀ j u, [Value.int .i64 a, .int .i64 b][j]? = some u → ((wc.alloc (.cells #[.int .i64 a, .int .i64 b] 145)).drew).cell? ((⟨wc.heap.size, 0, none⟩ : Addr).add j) = some u) := six_cells wc [.int .i64 a, .int .i64 b] 145
    have H15 : Hid (∀ u ∈ [Value.int .i64 a, .int .i64 b], u.oneCell' = true) := by
      intro u hu
      simp at hu
      rcases hu with rfl | rfl <;> rfl
    have HM5 : Hid (n + 1 ≤ maxLen) := by unfold Hid maxLen; omega
    have HB5 : Hid (B ≤ ((wc.alloc (.cells #[.int .i64 a, .int .i64 b] 145)).drew).heap.size) := by
      show B ≤ (World.alloc _ _).heap.size
      simp
      omega
    have HT5 := Lib.hid ((HTK.out.below ((Below.refl _ _).alloc (Nat.le_refl _) (.cells #[.int .i64 a, .int .i64 b] 145))).below (W' := (wc.alloc (.cells #[.int .i64 a, .int .i64 b] 145)).drew) (Below.refl _ _).drew)
    have HX5 : Hid (Below t W ((wc.alloc (.cells #[.int .i64 a, .int .i64 b] 145)).drew)) := (HBK.out.alloc (by omega) _).drew
    go_upto_region 5 with fail
    go_cut [] (fun wx => ∃ A2' c2', Hid (Tak wx B t (some ⟨A', 0, none⟩) c' (some ⟨A2', 0, none⟩) c2' (n + 1) (n + 1) (ds ++ node0 k v) (ss ++ [.int .i64 a, .int .i64 b])) ∧ Hid (Below t W wx))
    case first =>
      go_region_law (refine step_append_own rfl (.tmp 32) (.tmp 42) 41 rfl B 145 i1 _ 2 16 Tryz.underlying41 hi1 hy0 hy1 hy2 rfl (by decide) A2 n c2 ss (by simp [Act.eval]) HO5.out ⟨wc.heap.size, 0, none⟩ 1 1 [.int .i64 a, .int .i64 b] (by simp [Act.eval]) rfl HN5.out H15.out HM5.out (by omega) HB5.out ?_; intro v' w' hown hgrow; obtain ⟨r, cap, hv⟩ := Joins.ownsRow_form hown (by omega); subst hv; have hbt := HT5.out.grownBlk2 hgrow; obtain ⟨e0, e1, e2, ef⟩ := blk3 hbt; have HOW := Lib.hid hown; have HG := Lib.hid hgrow; clear hown hgrow hbt)
      all_goals
        go_wp2_with fail
        go_meet
        exact ⟨_, _, HT5.out.putS HOW.out HG.out, Tak.low HX5.out (Nat.le_refl _) (Nat.le_of_lt htl) HT5.out.sp ht HG.out 1 _⟩
    case rest =>
      obtain ⟨A2', c2', HTK2, HBK2⟩ := hcut
      clear HO5 HN5 H15 HM5 HB5 HT5 HX5 HBS htc hBc HTK HBK HLK t0 t1 t2 tf l0 l1 l2 lf
      obtain ⟨t0, t1, t2, tf⟩ := blk3 HTK2.out.blk
      have hnf : ∀ w, (binOp BinOp.neq 1 Value.nilFunc Value.nilFunc).run Tryz.prog w = .ok (.bool false) w := fun w => by kernel_rfl
      go_upto_region 8 with fail
      have hlen0 : ds.length = n * 6 := HT0.out
      have hcell : wc.cell? ⟨A', n * 6 + 5, none⟩ = some (.int .i64 0) := by
        rw [HTK2.out.d.cellAt (n * 6 + 5) (by omega), List.getElem?_append_right (by omega), hlen0, show n * 6 + 5 - n * 6 = 5 by omega]
        rfl
      have hfr : wc.frozen? ⟨A', n * 6 + 5, none⟩ = false := HTK2.out.d.frozenAt _
      have hw1 : IntKind.i64.wrap (((n + 1 : Nat) : Int) - (n : Int)) = 1 := by rw [IntKind.wrap_i64]; omega
      have hw2 : IntKind.i64.wrap ((n : Int) + 1 - (n : Int)) = 1 := by rw [IntKind.wrap_i64]; omega
      clear hlen0
      go_region
      all_goals
        go_returns
        exact ⟨rfl, _, _, _, _, _, HTK2.out.sized HT0.out, ((HBK2.out.setCell (HTK2.out.lowD ht) _).drew)⟩

end Go.Proofs.YtannihddhebcpaaGreatDoor
