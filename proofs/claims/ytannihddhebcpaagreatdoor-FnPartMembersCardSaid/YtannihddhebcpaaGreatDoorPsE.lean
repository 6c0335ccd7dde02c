/- THE PARSER: expect, skip. -/
import Derived.Test.YtannihddhebcpaaGreatDoorPsC
import Derived.Test.YtannihddhebcpaaGreatDoorPsD
namespace Go.Proofs.YtannihddhebcpaaGreatDoor
open Go.RowKit

set_option maxHeartbeats 1600000 in
set_option maxRecDepth 100000 in
theorem skip_no {W : World} {q g h p b n cap : Nat} {l : List UInt8} {i prev : Nat} {k : Int} {s e : Nat} {v : ByteArray} (H : Ps W q g h p b n cap l i prev k s e v) (kind : Int) (hk : (k == kind) = false) :
    Calls Tryz.prog 87 #[.pointer (some ⟨q, 0, none⟩), .int .i64 kind] W fun x w' => x = .returned (.tuple #[.bool false, .nilIface]) ∧ W = w' := by
  obtain ⟨c0, c1, c2, c3, c4, c5, c6, c7, c8⟩ := H.cells
  clear H
  go_enter Tryz.func87, Tryz.ntmps87
  go_wp2_with fail
  go_ret2
  exact ⟨rfl, rfl⟩

set_option maxHeartbeats 1600000 in
set_option maxRecDepth 100000 in
theorem skip_yes {W : World} {q g h p b n cap : Nat} {l : List UInt8} {i prev : Nat} {k : Int} {s e : Nat} {v : ByteArray} (H : Ps W q g h p b n cap l i prev k s e v) (hn : n ≤ 4611686018427387904) (he : 0 < e) {k2 : Int} {s2 e2 : Nat} {v2 : ByteArray} (hT : TokAt l e k2 s2 e2 v2) :
    Calls Tryz.prog 87 #[.pointer (some ⟨q, 0, none⟩), .int .i64 k] W fun x w' => x = .returned (.tuple #[.bool true, .nilIface]) ∧ Ps w' q g h p b n cap l e2 e k2 s2 e2 v2 ∧ Keep q g W w' := by
  obtain ⟨c0, c1, c2, c3, c4, c5, c6, c7, c8⟩ := H.cells
  have HA := Lib.hid (advance_any H hn he hT)
  clear H hT
  go_enter Tryz.func87, Tryz.ntmps87
  go_wp2_with fail
  refine HA.out.mono ?_
  rintro x w' ⟨rfl, hp, hk2⟩
  have HP := Lib.hid (And.intro hp hk2)
  clear hp hk2
  go_wp2_with fail
  go_ret2
  exact ⟨rfl, HP.out⟩

set_option maxHeartbeats 3200000 in
set_option maxRecDepth 100000 in
theorem expect_any {W : World} {q g h p b n cap : Nat} {l : List UInt8} {i prev : Nat} {k : Int} {s e : Nat} {v : ByteArray} (H : Ps W q g h p b n cap l i prev k s e v) (hn : n ≤ 4611686018427387904) (he : 0 < e) {k2 : Int} {s2 e2 : Nat} {v2 : ByteArray} (hT : TokAt l e k2 s2 e2 v2) :
    Calls Tryz.prog 80 #[.pointer (some ⟨q, 0, none⟩), .int .i64 k] W fun x w' => x = .returned (.tuple #[.agg #[.int .i64 k, .int .i64 (s : Int), .int .i64 (e : Int), .string v], .nilIface]) ∧ Ps w' q g h p b n cap l e2 e k2 s2 e2 v2 ∧ Keep q g W w' := by
  obtain ⟨c0, c1, c2, c3, c4, c5, c6, c7, c8⟩ := H.cells
  have hlt := Blk.lt H.blk
  have hgq := H.gq
  have d : ∀ j o, (W.alloc o).cell? ⟨q, j, none⟩ = W.cell? ⟨q, j, none⟩ := fun j o => World.cell?_alloc_past _ _ _ hlt
  have hB := fun o o' => ((Below.refl W.heap.size W).alloc (Nat.le_refl _) o).alloc (by simp) o'
  have HA := Lib.hid (fun o o' => advance_any ((H.below (hB o o')).below (w' := ((W.alloc o).alloc o').drew) (Below.refl _ _).drew) hn he hT)
  have HBx := Lib.hid (fun (o' : Obj) (w' : World) (hK : Keep q g ((W.alloc (.cells #[.int .i64 0, .int .i64 0, .int .i64 0, .string ⟨#[]⟩] 52)).alloc o').drew w') => show Blk w' W.heap.size 52 #[.int .i64 0, .int .i64 0, .int .i64 0, .string ⟨#[]⟩] from (hK.block W.heap.size (by show _ < (World.alloc _ _).heap.size; simp; omega) (by omega) (by omega)).trans (Blk.alloc (Blk.new W 52 _) o'))
  have HBy := Lib.hid (fun (o : Obj) (c0 c1 c2 c3 : Value) (w' : World) (hK : Keep q g ((W.alloc o).alloc (.cells #[c0, c1, c2, c3] 52)).drew w') => show Blk w' (W.heap.size + 1) 52 #[c0, c1, c2, c3] from (hK.block (W.heap.size + 1) (by show _ < (World.alloc _ _).heap.size; simp) (by omega) (by omega)).trans (by have := Blk.new (W.alloc o) 52 #[c0, c1, c2, c3]; rwa [show (W.alloc o).heap.size = W.heap.size + 1 by simp] at this))
  have HKK := Lib.hid (fun o o' (w' : World) (hK : Keep q g ((W.alloc o).alloc o').drew w') => (Keep.of_below (q := q) (g := g) (hB o o').drew).trans hK)
  clear H hT hB
  go_enter Tryz.func80, Tryz.ntmps80
  go_wp2_with fail
  go_region_with ((go_at_call 86; refine (HA.out _ _).mono ?_; rintro x w' ⟨rfl, hp, hkp⟩; have HP := Lib.hid hp; obtain ⟨a0, a1, a2, a3, af⟩ := blk4 (HBx.out _ _ hkp); obtain ⟨b0, b1, b2, b3, bf⟩ := blk4 (HBy.out _ _ _ _ _ _ hkp); have HK := Lib.hid (HKK.out _ _ _ hkp); clear hp hkp))
  all_goals
    go_wp2_with fail
    have s0 : ∀ u : Value, (w'.setCell ⟨W.heap.size, 0, none⟩ u).cell? ⟨W.heap.size, 0, none⟩ = some u := fun u => World.cell?_setCell_same _ _ _ a0
    refine bodyPost_ret (v := .tuple #[.agg #[.int .i64 k, .int .i64 (s : Int), .int .i64 (e : Int), .string v], .nilIface]) (by simp [results, Tryz.results80, go_sem, s0, a1, a2, a3]) rfl ⟨rfl, ?_, ?_⟩
    · exact HP.out.heap (by rw [size_set4]; exact Nat.le_refl _) (fun j hj => heap_set4 w' W.heap.size 0 1 2 3 _ _ _ _ j (by omega))
    · exact (((HK.out.setCell (.inr (.inr (Nat.le_refl _))) _).setCell (.inr (.inr (Nat.le_refl _))) _).setCell (.inr (.inr (Nat.le_refl _))) _).setCell (.inr (.inr (Nat.le_refl _))) _

end Go.Proofs.YtannihddhebcpaaGreatDoor
