/- THE PARSER: NewLocation, NewName, NewNamed, loc. -/
import Derived.Test.YtannihddhebcpaaGreatDoorPsB
import Derived.StillTailTactics
import Derived.Deep.QuietTactic
import Derived.BigQuiet
import Derived.Deep.DeepCutAuto
import Derived.Deep.RegionLaw
import Derived.Deep.RegionLawGrows
namespace Go.Proofs.YtannihddhebcpaaGreatDoor
open Go.RowKit

/-- A new block behind a call that turns nothing that was there. -/
structure NewBlk (W w : World) (m : Nat) (t : TypeId) (cs : Array Value) : Prop where
  blk : Blk w m t cs
  lo : W.heap.size ≤ m
  below : Below W.heap.size W w

def GotPtr (W : World) (t : TypeId) (cs : Array Value) (x : Ending) (w : World) : Prop := ∃ m, x = .returned (.pointer (some ⟨m, 0, none⟩)) ∧ NewBlk W w m t cs

theorem blk3 {w : World} {z : Nat} {t : TypeId} {c0 c1 c2 : Value} (h : Blk w z t #[c0, c1, c2]) : w.cell? ⟨z, 0, none⟩ = some c0 ∧ w.cell? ⟨z, 1, none⟩ = some c1 ∧ w.cell? ⟨z, 2, none⟩ = some c2 ∧ (∀ o, w.frozen? ⟨z, o, none⟩ = false) :=
  ⟨by rw [Blk.cell h]; rfl, by rw [Blk.cell h]; rfl, by rw [Blk.cell h]; rfl, fun o => Blk.frozen h o⟩

set_option maxHeartbeats 1600000 in
set_option maxRecDepth 100000 in
theorem newLocation_any {W : World} {a : Nat} {c0 c1 : Int} {c2 : Option Addr} (h : Blk W a 144 #[.int .i64 c0, .int .i64 c1, .pointer c2]) :
    Calls Tryz.prog 136 #[.pointer (some ⟨a, 0, none⟩)] W (GotPtr W 144 #[.int .i64 c0, .int .i64 c1, .pointer c2]) := by
  obtain ⟨k0, k1, k2, kf⟩ := blk3 h
  have hlt := Blk.lt h
  clear h
  go_enter Tryz.func136, Tryz.ntmps136
  go_wp2_with fail
  go_region
  all_goals
    go_wp2_with fail
    go_ret
    exact ⟨_, rfl, Blk.drew (Blk.new W 144 _), Nat.le_refl _, ((Below.refl _ W).alloc (Nat.le_refl _) _).drew⟩

set_option maxHeartbeats 1600000 in
set_option maxRecDepth 100000 in
theorem newName_any {W : World} {a : Nat} {c1 c2 : Value} {s0 : ByteArray} (h : Blk W a 82 #[.string s0, c1, c2]) :
    Calls Tryz.prog 139 #[.pointer (some ⟨a, 0, none⟩)] W fun x w' => x = .returned (.pointer (some ⟨a, 0, none⟩)) ∧ W.setCell ⟨a, 0, none⟩ (.string ⟨#[78, 97, 109, 101]⟩) = w' := by
  obtain ⟨k0, k1, k2, kf⟩ := blk3 h
  clear h
  go_enter Tryz.func139, Tryz.ntmps139
  go_wp2_with fail
  go_ret
  exact ⟨rfl, rfl⟩

set_option maxHeartbeats 1600000 in
set_option maxRecDepth 100000 in
theorem newNamed_any {W : World} {a : Nat} {c1 c2 : Value} {s0 : ByteArray} (h : Blk W a 80 #[.string s0, c1, c2]) :
    Calls Tryz.prog 138 #[.pointer (some ⟨a, 0, none⟩)] W fun x w' => x = .returned (.pointer (some ⟨a, 0, none⟩)) ∧ W.setCell ⟨a, 0, none⟩ (.string ⟨#[78, 97, 109, 101, 100]⟩) = w' := by
  obtain ⟨k0, k1, k2, kf⟩ := blk3 h
  clear h
  go_enter Tryz.func138, Tryz.ntmps138
  go_wp2_with fail
  go_ret
  exact ⟨rfl, rfl⟩

set_option maxHeartbeats 1600000 in
set_option maxRecDepth 100000 in
theorem loc_any {W : World} {q g h p b n cap : Nat} {l : List UInt8} {i prev : Nat} {k : Int} {s e : Nat} {v : ByteArray} (H : Ps W q g h p b n cap l i prev k s e v) (s0 : Int) :
    Calls Tryz.prog 78 #[.pointer (some ⟨q, 0, none⟩), .int .i64 s0] W (GotPtr W 144 #[.int .i64 s0, .int .i64 (prev : Int), .pointer (some ⟨p, 0, none⟩)]) := by
  obtain ⟨c0, c1, c2, c3, c4, c5, c6, c7, c8⟩ := H.cells
  have hlt := Blk.lt H.blk
  have HL := Lib.hid (fun (W2 : World) (a : Nat) (h : Blk W2 a 144 #[.int .i64 s0, .int .i64 (prev : Int), .pointer (some ⟨p, 0, none⟩)]) => newLocation_any h)
  have HB := Lib.hid (fun (o : Obj) => ((Below.refl W.heap.size W).alloc (Nat.le_refl _) o).drew)
  clear H
  go_enter Tryz.func78, Tryz.ntmps78
  go_wp2_with fail
  go_region_with ((go_at_call 136; refine (HL.out _ _ ?_).mono ?_; exact Blk.drew (Blk.new W 144 _); rintro x w' ⟨m, rfl, hm⟩; have HM := Lib.hid hm; clear hm))
  all_goals
    go_wp2_with fail
    go_ret
    have hb := HM.out.below
    have hlo := HM.out.lo
    exact ⟨_, rfl, HM.out.blk, Nat.le_trans (HB.out _).size hlo, (HB.out _).trans (hb.mono (HB.out _).size)⟩

end Go.Proofs.YtannihddhebcpaaGreatDoor
