/- THE REFERENCE's LEXER: the first token that is added. -/
import Derived.Test.YthmdgegaejanaaaGreatDoorSpecD
import Derived.Test.YthmdgegaejanaaaGreatDoorToks
import Derived.Deep.RegionLawGrows
import Derived.Lib.Buffer
namespace Go.Proofs.YthmdgegaejanaaaGreatDoor
open Go.RowKit

theorem new_cells (W : World) (a b c d : Value) : ∀ j u, [a, b, c, d][j]? = some u → (W.alloc (.cells #[a, b, c, d] 29)).cell? ((⟨W.heap.size, 0, none⟩ : Addr).add j) = some u := by
  intro j u hj
  rw [Lib.addr_add, Nat.zero_add, World.cell?_alloc_at _ _ _ _ rfl]
  simpa using hj

theorem below_none (w w' : World) (o : Obj) (h : ((w.alloc o).drew).grownBy w' none) : Below w.heap.size w w' :=
  ((Below.refl _ w).alloc (Nat.le_refl _) o).trans ⟨h.os, h.tape, h.output, Nat.le_trans (by show _ ≤ (w.alloc o).heap.size; exact Nat.le_refl _) h.size, fun i hi => h.block i (Nat.lt_of_lt_of_le hi (by show w.heap.size ≤ (w.alloc o).heap.size; simp)) (by simp)⟩

/-- What is known behind the two stores. -/
theorem add_closed {w w' : World} {o : Obj} {g r cap : Nat} {s : ByteArray} {i : Nat} {unsure : Bool} {k i2 to : Int} {v : ByteArray} (h : ∀ w', ((w.alloc o).drew).grownBy w' none → Lx w' g s i (.slice none 0 0) false unsure)
    (hown : w'.ownsRow ((w.alloc o).drew).heap.size 29 4 (.slice (some ⟨r, 0, none⟩) (0 + 1) cap) (0 + 1) ([] ++ [.int .i64 k, .string v, .int .i64 i2, .int .i64 to])) (hg : ((w.alloc o).drew).grownBy w' none) (hlt : g < w.heap.size) :
    ∃ r' cap', Lx ((w'.setCell ⟨g, 2, none⟩ (.slice (some ⟨r, 0, none⟩) 1 cap)).setCell ⟨g, 1, none⟩ (.int .i64 to)) g s to (.slice (some ⟨r', 0, none⟩) 1 cap') false unsure ∧ r' < ((w'.setCell ⟨g, 2, none⟩ (.slice (some ⟨r, 0, none⟩) 1 cap)).setCell ⟨g, 1, none⟩ (.int .i64 to)).heap.size ∧
      ((w'.setCell ⟨g, 2, none⟩ (.slice (some ⟨r, 0, none⟩) 1 cap)).setCell ⟨g, 1, none⟩ (.int .i64 to)).cell? ⟨r', 0, none⟩ = some (.int .i64 k) ∧ ((w'.setCell ⟨g, 2, none⟩ (.slice (some ⟨r, 0, none⟩) 1 cap)).setCell ⟨g, 1, none⟩ (.int .i64 to)).cell? ⟨r', 1, none⟩ = some (.string v) := by
  have hl := h w' hg
  obtain ⟨hr1, hr2⟩ := hown.lt r rfl
  have hne : r ≠ g := by
    have : ((w.alloc o).drew).heap.size = w.heap.size + 1 := by show (w.alloc o).heap.size = _; simp
    omega
  refine ⟨r, cap, ?_, ?_, ?_, ?_⟩
  · have := Blk.set_ (Blk.set_ hl 2 (.slice (some ⟨r, 0, none⟩) 1 cap)) 1 (.int .i64 to)
    simpa [Lx] using this
  · simpa [World.setCell] using hr2
  · rw [World.cell?_setCell_other _ _ _ _ (addr_ne (Ne.symm hne)), World.cell?_setCell_other _ _ _ _ (addr_ne (Ne.symm hne)), hown.cellAt 0 (by simp)]
    rfl
  · rw [World.cell?_setCell_other _ _ _ _ (addr_ne (Ne.symm hne)), World.cell?_setCell_other _ _ _ _ (addr_ne (Ne.symm hne)), hown.cellAt 1 (by simp)]
    rfl

set_option maxHeartbeats 3200000 in
set_option maxRecDepth 100000 in
theorem add_first {w : World} {g : Nat} {s : ByteArray} {i : Nat} {unsure : Bool} (hx : Lx w g s i (.slice none 0 0) false unsure) (k : Int) (to : Int) (v : ByteArray) :
    Calls Tryz.prog 35 #[.pointer (some ⟨g, 0, none⟩), .int .i64 k, .int .i64 to, .string v] w fun x w' => x = .returned (.tuple #[]) ∧ (∃ r cap, Lx w' g s to (.slice (some ⟨r, 0, none⟩) 1 cap) false unsure ∧ r < w'.heap.size ∧ w'.cell? ⟨r, 0, none⟩ = some (.int .i64 k) ∧ w'.cell? ⟨r, 1, none⟩ = some (.string v)) ∧ w.grownBy w' (some g) := by
  obtain ⟨c0, c1, c2, c3, c4⟩ := hx.cells
  obtain ⟨i0, hi0, hz0, hz1, hz2⟩ := info_parts info29
  have hlt : g < w.heap.size := Blk.lt hx
  have HX := Lib.hid hx
  have HN := Lib.hid (new_cells w (.int .i64 k) (.string v) (.int .i64 i) (.int .i64 to))
  have H1 : Hid (∀ u ∈ [Value.int .i64 k, .string v, .int .i64 i, .int .i64 to], u.oneCell' = true) := by
    intro u hu
    simp at hu
    rcases hu with rfl | rfl | rfl | rfl <;> rfl
  have HM : Hid (0 + 1 ≤ maxLen) := by unfold Hid maxLen; omega
  have HX2 : Hid (∀ w', ((w.alloc (.cells #[.int .i64 k, .string v, .int .i64 i, .int .i64 to] 29)).drew).grownBy w' none → Lx w' g s i (.slice none 0 0) false unsure) := fun w' h => Blk.grown (Blk.drew (Blk.alloc hx _)) h (by simp)
  clear hx
  go_enter Tryz.func35, Tryz.ntmps35
  go_wp2_with fail
  go_region_law (refine step_append_grows rfl (.tmp 12) (.tmp 21) 25 rfl 29 i0 _ 4 40 Tryz.underlying25 hi0 hz0 hz1 hz2 rfl (by decide) none 0 0 [] (by simp [Act.eval]) (fun _ => ⟨rfl, rfl⟩) rfl (fun b hb => by cases hb) ⟨w.heap.size, 0, none⟩ 1 1 [.int .i64 k, .string v, .int .i64 i, .int .i64 to] (by simp [Act.eval]) rfl HN.out H1.out (by omega) HM.out (by omega) ?_; intro v' w' hown hgrow; obtain ⟨r, cap, hv⟩ := Joins.ownsRow_form hown (by omega); subst hv; obtain ⟨e0, e1, e2, e3, e4⟩ := (HX2.out w' hgrow).cells; have f2 := Blk.frozen (HX2.out w' hgrow) 2; have f1 := Blk.frozen (HX2.out w' hgrow) 1; have HO := Lib.hid hown; have HG := Lib.hid hgrow; clear hown hgrow)
  all_goals
    go_wp2_with fail
    go_returns
    refine ⟨rfl, add_closed HX2.out HO.out HG.out hlt, ?_⟩
    have k1 : w.grownBy w' (some g) := only_of_below (below_none w _ _ HG.out) _
    exact only_setCell (p := ⟨g, 1, none⟩) (only_setCell (p := ⟨g, 2, none⟩) k1 (.inl rfl) _) (.inl rfl) _

end Go.Proofs.YthmdgegaejanaaaGreatDoor
