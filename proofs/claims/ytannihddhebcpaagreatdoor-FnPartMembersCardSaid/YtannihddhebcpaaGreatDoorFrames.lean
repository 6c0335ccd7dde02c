/- FRAMES: what a call leaves as it was (after the guide's small lemmas). -/
import Derived.Below
import Derived.Deep.Draws
import Derived.Deep.OwnRows
import Derived.OwnWalk
import Derived.Laws.AppendOwn
namespace Go.Proofs.YtannihddhebcpaaGreatDoor
open Go.RowKit

theorem only_drew {a w : World} {row : Option Nat} (h : a.grownBy w row) : a.grownBy w.drew row := ⟨h.os, h.tape, h.output, h.size, h.block⟩
theorem only_drewN {a w : World} {row : Option Nat} (h : a.grownBy w row) (n : Nat) : a.grownBy (w.drewN n) row := ⟨h.os, h.tape, h.output, h.size, h.block⟩
theorem below_drewN {B : Nat} {a w : World} (h : Below B a w) (n : Nat) : Below B a (w.drewN n) := ⟨h.os, h.tape, h.output, h.size, h.block⟩
theorem only_alloc {a w : World} {row : Option Nat} (h : a.grownBy w row) (o : Obj) : a.grownBy (w.alloc o) row :=
  ⟨h.os, h.tape, h.output, Nat.le_trans h.size (by simp), fun i hi hne => (Below.heap_alloc w o i (Nat.lt_of_lt_of_le hi h.size)).trans (h.block i hi hne)⟩
theorem only_setCell {a w : World} {g : Nat} (h : a.grownBy w (some g)) {p : Addr} (hp : p.block = g ∨ a.heap.size ≤ p.block) (u : Value) : a.grownBy (w.setCell p u) (some g) :=
  ⟨h.os, h.tape, h.output, by simpa [World.setCell] using h.size, fun i hi hne => (Below.heap_setCell w p u i (by
    rintro rfl
    rcases hp with hp | hp
    · exact hne (by rw [hp])
    · omega)).trans (h.block i hi hne)⟩
theorem only_of_below {a w : World} (h : Below a.heap.size a w) (row : Option Nat) : a.grownBy w row := ⟨h.os, h.tape, h.output, h.size, fun i hi _ => h.block i hi⟩
/-- What lies below block B is kept where the one block that turns lies from B on. -/
theorem below_of_only {B : Nat} {a b c : World} {g : Nat} (h : Below B a b) (k : b.grownBy c (some g)) (hg : B ≤ g) (hB : B ≤ b.heap.size) : Below B a c :=
  ⟨k.os.trans h.os, k.tape.trans h.tape, k.output.trans h.output, Nat.le_trans h.size k.size, fun i hi => (k.block i (Nat.lt_of_lt_of_le hi hB) (by intro e; injection e with e; omega)).trans (h.block i hi)⟩
theorem only_cell {a w : World} {g : Nat} (h : a.grownBy w (some g)) {p : Addr} (hp : p.block < a.heap.size) (hne : p.block ≠ g) : w.cell? p = a.cell? p :=
  World.cell?_of_block (h.block p.block hp (fun e => hne (by injection e)))
theorem only_frozen {a w : World} {g : Nat} (h : a.grownBy w (some g)) {p : Addr} (hp : p.block < a.heap.size) (hne : p.block ≠ g) : w.frozen? p = a.frozen? p :=
  World.frozen?_of_block (h.block p.block hp (fun e => hne (by injection e)))

theorem addr_ne {g h i j : Nat} (hne : g ≠ h) : (⟨g, i, none⟩ : Addr) ≠ ⟨h, j, none⟩ := by
  intro e
  injection e with e1
  exact hne e1
theorem set2_same {w : World} {g b : Nat} (hne : g ≠ b) {u x old : Value} (h : w.cell? ⟨b, 0, none⟩ = some old) : ((w.setCell ⟨g, 0, none⟩ u).setCell ⟨b, 0, none⟩ x).cell? ⟨b, 0, none⟩ = some x :=
  World.cell?_setCell_same _ _ _ ((World.cell?_setCell_other _ _ _ _ (addr_ne hne)).trans h)

end Go.Proofs.YtannihddhebcpaaGreatDoor
