/- A token, or an error beside it; two blocks behind a call. -/
import Derived.Test.YthmdgegaejanaaaGreatDoorTokL
namespace Go.Proofs.YthmdgegaejanaaaGreatDoor
open Go.RowKit

theorem box44 {w W : World} {c0 c1 c2 c3 d0 d1 d2 d3 : Value} {t u : TypeId} (hb : Below ((w.alloc (.cells #[c0, c1, c2, c3] t)).alloc (.cells #[d0, d1, d2, d3] u)).heap.size ((w.alloc (.cells #[c0, c1, c2, c3] t)).alloc (.cells #[d0, d1, d2, d3] u)) W) :
    Box4 w.heap.size c0 c1 c2 c3 W ∧ Box4 (w.heap.size + 1) d0 d1 d2 d3 W := by
  have h1 : Below (w.alloc (.cells #[c0, c1, c2, c3] t)).heap.size (w.alloc (.cells #[c0, c1, c2, c3] t)) W := ((Below.refl _ _).alloc (Nat.le_refl _) _).trans (hb.mono (by simp))
  have h2 := box4 hb
  rw [show (w.alloc (.cells #[c0, c1, c2, c3] t)).heap.size = w.heap.size + 1 by simp] at h2
  exact ⟨box4 h1, h2⟩
theorem set5_same {w : World} {g b : Nat} (hne : g ≠ b) {old : Value} (h : w.cell? ⟨b, 0, none⟩ = some old) (x0 x1 x2 x3 u : Value) :
    (((((w.setCell ⟨g, 0, none⟩ x0).setCell ⟨g, 1, none⟩ x1).setCell ⟨g, 2, none⟩ x2).setCell ⟨g, 3, none⟩ x3).setCell ⟨b, 0, none⟩ u).cell? ⟨b, 0, none⟩ = some u := by
  have h1 : ((((w.setCell ⟨g, 0, none⟩ x0).setCell ⟨g, 1, none⟩ x1).setCell ⟨g, 2, none⟩ x2).setCell ⟨g, 3, none⟩ x3).cell? ⟨b, 0, none⟩ = some old := by
    rw [World.cell?_setCell_other _ _ _ _ (addr_ne hne), World.cell?_setCell_other _ _ _ _ (addr_ne hne), World.cell?_setCell_other _ _ _ _ (addr_ne hne), World.cell?_setCell_other _ _ _ _ (addr_ne hne)]
    exact h
  exact World.cell?_setCell_same _ _ _ h1

/-- A token, or an error beside it. -/
def Res (k : Int) (s e : Nat) (v : ByteArray) (bad : Bool) (x : Ending) : Prop :=
  match bad with
  | false => x = .returned (.tuple #[.agg #[.int .i64 k, .int .i64 s, .int .i64 e, .string v], .nilIface])
  | true => ∃ a, x = .returned (.tuple #[.agg #[.int .i64 k, .int .i64 s, .int .i64 e, .string v], .iface 62 (.pointer (some a))])

end Go.Proofs.YthmdgegaejanaaaGreatDoor
