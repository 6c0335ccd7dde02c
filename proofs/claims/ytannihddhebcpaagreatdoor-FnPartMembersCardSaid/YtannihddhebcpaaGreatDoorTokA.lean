/- ONE TOKEN (readToken): the end; a name. -/
import Derived.Test.YtannihddhebcpaaGreatDoorLexB
import Derived.Test.YtannihddhebcpaaGreatDoorLexD
namespace Go.Proofs.YtannihddhebcpaaGreatDoor
open Go.RowKit

/-- What is known of a new block of four cells behind a call that kept what there was. -/
structure Box4 (g : Nat) (c0 c1 c2 c3 : Value) (W : World) : Prop where
  a0 : W.cell? ⟨g, 0, none⟩ = some c0
  a1 : W.cell? ⟨g, 1, none⟩ = some c1
  a2 : W.cell? ⟨g, 2, none⟩ = some c2
  a3 : W.cell? ⟨g, 3, none⟩ = some c3
  f : ∀ j, W.frozen? ⟨g, j, none⟩ = false
  lt : g < W.heap.size
theorem box4 {w W : World} {c0 c1 c2 c3 : Value} {t : TypeId} (hb : Below (w.alloc (.cells #[c0, c1, c2, c3] t)).heap.size (w.alloc (.cells #[c0, c1, c2, c3] t)) W) : Box4 w.heap.size c0 c1 c2 c3 W := by
  have hs := hb.size
  have hc : ∀ j, W.cell? ⟨w.heap.size, j, none⟩ = (w.alloc (.cells #[c0, c1, c2, c3] t)).cell? ⟨w.heap.size, j, none⟩ := fun j => hb.cell (p := ⟨w.heap.size, j, none⟩) (by simp)
  have hn : ∀ j, (w.alloc (.cells #[c0, c1, c2, c3] t)).cell? ⟨w.heap.size, j, none⟩ = #[c0, c1, c2, c3][j]? := fun j => World.cell?_alloc_at _ _ _ _ rfl
  refine ⟨by rw [hc, hn]; rfl, by rw [hc, hn]; rfl, by rw [hc, hn]; rfl, by rw [hc, hn]; rfl, fun j => ?_, by simp at hs; omega⟩
  exact (hb.frozen (p := ⟨w.heap.size, j, none⟩) (by simp)).trans (World.frozen?_alloc_at _ _ _ _ rfl)

set_option maxHeartbeats 1600000 in
set_option maxRecDepth 100000 in
theorem tok_end {w : World} {p b n cap : Nat} {l : List UInt8} (hS : Src w p b n cap l) (hn : n ≤ 4611686018427387904) (i : Nat) (hi : i ≤ n) (hs : Skips l i n) :
    Calls Tryz.prog 133 #[.pointer (some ⟨p, 0, none⟩), .int .i64 (i : Int)] w fun x w' =>
      x = .returned (.tuple #[.agg #[.int .i64 1, .int .i64 n, .int .i64 n, .string ⟨#[]⟩], .nilIface]) ∧ Below w.heap.size w w' := by
  obtain ⟨c1, c2, c3⟩ := hS.cells
  have HS := Lib.hid (fun o => skip_any (hS.body.below ((Below.refl _ w).alloc (Nat.le_refl _) o)) cap i n hn hi hs)
  clear c3 hs
  go_enter Tryz.func133, Tryz.ntmps133
  go_wp2_with (first | (go_at_call 153; refine (HS.out _).mono ?_; rintro x w' ⟨rfl, rfl⟩) | (go_at_call 154; refine (makeToken_any _ _ _ _ _).mono ?_; rintro x w' ⟨rfl, rfl⟩))
  go_returns
  exact ⟨rfl, by go_grown⟩

end Go.Proofs.YtannihddhebcpaaGreatDoor
