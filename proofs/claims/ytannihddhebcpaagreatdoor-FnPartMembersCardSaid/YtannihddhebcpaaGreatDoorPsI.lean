/- THE PARSER's DOORS: begin (a text is turned into bytes, the parser holds its first token). -/
import Derived.Test.YtannihddhebcpaaGreatDoorPsH
import Derived.Lib.ConvBytes
import Derived.Lib.AtoiErrMem
namespace Go.Proofs.YtannihddhebcpaaGreatDoor
open Go.RowKit

set_option maxHeartbeats 1600000 in
set_option maxRecDepth 100000 in
/-- NewSource at a new source without a name: the name is set. -/
theorem source_new (w : World) (v : Value) :
    Calls Tryz.prog 28 #[.pointer (some ⟨w.heap.size, 0, none⟩)] (w.alloc (.cells #[v, .string ⟨#[]⟩] 104)) fun x w' =>
      x = .returned (.pointer (some ⟨w.heap.size, 0, none⟩)) ∧ w.alloc (.cells #[v, .string ⟨#[71, 114, 97, 112, 104, 81, 76]⟩] 104) = w' := by
  go_enter Tryz.func28, Tryz.ntmps28
  go_wp2_with fail
  go_ret
  exact ⟨rfl, rfl⟩

set_option maxHeartbeats 1600000 in
set_option maxRecDepth 100000 in
/-- Lex: the closure over its two variables. -/
theorem lex_any (w : World) (p : Nat) :
    Calls Tryz.prog 73 #[.pointer (some ⟨p, 0, none⟩)] w fun x w' =>
      x = .returned (.func (.func 132) #[] #[.pointer (some ⟨w.heap.size + 1, 0, none⟩), .pointer (some ⟨w.heap.size, 0, none⟩)]) ∧ (w.alloc (.cells #[.pointer (some ⟨p, 0, none⟩)] 55)).alloc (.cells #[.int .i64 0] 3) = w' := by
  have hmf : ∀ (fn : Fn) (first cap : Array Value) (w : World), (Instr.makeFunc fn first cap).run Tryz.prog w = .ok (.func fn first cap) w := fun _ _ _ _ => rfl
  go_enter Tryz.func73, Tryz.ntmps73
  go_wp2_with fail
  go_ret
  exact ⟨rfl, rfl⟩

/-- What is known where a text has been turned into bytes. -/
structure Conv (w W : World) (s : ByteArray) (cap : Nat) : Prop where
  size : W.heap.size = w.heap.size + 1
  body : Body W w.heap.size s.size s.data.toList
  below : Below w.heap.size w W
  cap : s.size ≤ cap

theorem conv_bytes (w : World) (s : ByteArray) (ha : Ascii s.data.toList) : Conv w (Lib.bytesWorld w 5 s) s (grownCap w s.size 0 5) := by
  have hl : s.data.toList.length = s.size := by simp
  refine ⟨Lib.bytesWorld_size w 5 s, ⟨hl, ha, by rw [Lib.bytesWorld_size]; omega, fun i hi => ?_⟩, Lib.bytesWorld_below w 5 s, grownCap_ge w s.size 0 5⟩
  rw [Lib.bytesWorld_cell w 5 s i hi, ch_get (by rw [hl]; exact hi)]
  have hi' : i < s.data.size := hi
  simp only [List.getD, Array.getElem?_toList, Array.getElem?_eq_getElem hi', Option.getD_some, Array.getElem_toList]

theorem ps_made {W W1 : World} {p b n cap : Nat} {l : List UInt8} {e2 : Nat} (hS : Src W p b n cap l) (hbp : b < p) (hW : Below W.heap.size W W1) (hB : Blk W1 (W.heap.size + 1) 55 #[.pointer (some ⟨p, 0, none⟩)]) (k0 : W1.cell? ⟨W.heap.size + 1 + 1, 0, none⟩ = some (.int .i64 (e2 : Int))) (k1 : W1.frozen? ⟨W.heap.size + 1 + 1, 0, none⟩ = false) (hw1 : W.heap.size + 3 ≤ W1.heap.size) (k2 : Int) (s2 e3 : Nat) (v2 : ByteArray) :
    Ps ((W1.alloc (.cells #[.int .i64 k2, .int .i64 (s2 : Int), .int .i64 (e3 : Int), .string v2] 52)).alloc (.cells (pcells (W.heap.size + 1 + 1) (W.heap.size + 1) p 0 k2 s2 e3 v2) 59)) (W1.heap.size + 1) (W.heap.size + 1 + 1) (W.heap.size + 1) p b n cap l e2 0 k2 s2 e3 v2 ∧
    Below W.heap.size W ((W1.alloc (.cells #[.int .i64 k2, .int .i64 (s2 : Int), .int .i64 (e3 : Int), .string v2] 52)).alloc (.cells (pcells (W.heap.size + 1 + 1) (W.heap.size + 1) p 0 k2 s2 e3 v2) 59)) := by
  have hlp := hS.lt
  have hX := (hW.alloc (by omega) (.cells #[.int .i64 k2, .int .i64 (s2 : Int), .int .i64 (e3 : Int), .string v2] 52))
  have hs1 : (W1.alloc (.cells #[.int .i64 k2, .int .i64 (s2 : Int), .int .i64 (e3 : Int), .string v2] 52)).heap.size = W1.heap.size + 1 := by simp
  have hY := hX.alloc hX.size (.cells (pcells (W.heap.size + 1 + 1) (W.heap.size + 1) p 0 k2 s2 e3 v2) 59)
  have hbl := Blk.new (W1.alloc (.cells #[.int .i64 k2, .int .i64 (s2 : Int), .int .i64 (e3 : Int), .string v2] 52)) 59 (pcells (W.heap.size + 1 + 1) (W.heap.size + 1) p 0 k2 s2 e3 v2)
  rw [hs1] at hbl
  have hcell : ∀ j, j < W1.heap.size → ((W1.alloc (.cells #[.int .i64 k2, .int .i64 (s2 : Int), .int .i64 (e3 : Int), .string v2] 52)).alloc (.cells (pcells (W.heap.size + 1 + 1) (W.heap.size + 1) p 0 k2 s2 e3 v2) 59)).heap[j]? = W1.heap[j]? := fun j hj =>
    (Below.heap_alloc _ _ j (by rw [hs1]; omega)).trans (Below.heap_alloc _ _ j hj)
  have hsz : ((W1.alloc (.cells #[.int .i64 k2, .int .i64 (s2 : Int), .int .i64 (e3 : Int), .string v2] 52)).alloc (.cells (pcells (W.heap.size + 1 + 1) (W.heap.size + 1) p 0 k2 s2 e3 v2) 59)).heap.size = W1.heap.size + 2 := by simp
  have hg := hcell (W.heap.size + 1 + 1) (by omega)
  have hh := hcell (W.heap.size + 1) (by omega)
  refine ⟨⟨hbl, ⟨?_, ?_, ?_, by omega, by omega⟩, hS.below hY, by omega, by omega, by omega, hbp⟩, hY⟩
  · exact (World.cell?_of_block (a := ⟨W.heap.size + 1 + 1, 0, none⟩) hg).trans k0
  · exact (World.frozen?_of_block (a := ⟨W.heap.size + 1 + 1, 0, none⟩) hg).trans k1
  · refine (World.cell?_of_block (a := ⟨W.heap.size + 1, 0, none⟩) hh).trans ?_
    rw [Blk.cell hB]; rfl

set_option maxHeartbeats 3200000 in
set_option maxRecDepth 100000 in
theorem makeParser_any {W : World} {p b n cap : Nat} {l : List UInt8} (hS : Src W p b n cap l) (hbp : b < p) (hn : n ≤ 4611686018427387904) {k2 : Int} {s2 e2 : Nat} {v2 : ByteArray} (hT : TokAt l 0 k2 s2 e2 v2) :
    Calls Tryz.prog 27 #[.pointer (some ⟨p, 0, none⟩), .agg #[.bool false, .bool false]] W fun x w' => ∃ q g h i, x = .returned (.tuple #[.pointer (some ⟨q, 0, none⟩), .nilIface]) ∧ Ps w' q g h p b n cap l i 0 k2 s2 e2 v2 ∧ W.heap.size ≤ h ∧ Below W.heap.size W w' := by
  have hlp := hS.lt
  have hb0 := (Below.refl W.heap.size W).alloc (Nat.le_refl _) (.cells #[.bool false, .bool false] 57)
  have hb1 := hb0.alloc hb0.size (.cells #[.pointer (some ⟨p, 0, none⟩)] 55)
  have hb2 := hb1.alloc hb1.size (.cells #[.int .i64 0] 3)
  have hz0 : (W.alloc (.cells #[.bool false, .bool false] 57)).heap.size = W.heap.size + 1 := by simp
  have hz1 : ((W.alloc (.cells #[.bool false, .bool false] 57)).alloc (.cells #[.pointer (some ⟨p, 0, none⟩)] 55)).heap.size = W.heap.size + 2 := by simp
  have hz2 : (((W.alloc (.cells #[.bool false, .bool false] 57)).alloc (.cells #[.pointer (some ⟨p, 0, none⟩)] 55)).alloc (.cells #[.int .i64 0] 3)).heap.size = W.heap.size + 3 := by simp
  have hB1 : Blk (((W.alloc (.cells #[.bool false, .bool false] 57)).alloc (.cells #[.pointer (some ⟨p, 0, none⟩)] 55)).alloc (.cells #[.int .i64 0] 3)) (W.heap.size + 1) 55 #[.pointer (some ⟨p, 0, none⟩)] := by
    have := Blk.alloc (Blk.new (W.alloc (.cells #[.bool false, .bool false] 57)) 55 #[.pointer (some ⟨p, 0, none⟩)]) (.cells #[.int .i64 0] 3)
    rwa [hz0] at this
  have hB2 : Blk (((W.alloc (.cells #[.bool false, .bool false] 57)).alloc (.cells #[.pointer (some ⟨p, 0, none⟩)] 55)).alloc (.cells #[.int .i64 0] 3)) (W.heap.size + 1 + 1) 3 #[.int .i64 0] := by
    have := Blk.new ((W.alloc (.cells #[.bool false, .bool false] 57)).alloc (.cells #[.pointer (some ⟨p, 0, none⟩)] 55)) 3 #[.int .i64 0]
    rwa [hz1] at this
  have hB0 : Blk (((W.alloc (.cells #[.bool false, .bool false] 57)).alloc (.cells #[.pointer (some ⟨p, 0, none⟩)] 55)).alloc (.cells #[.int .i64 0] 3)) W.heap.size 57 #[.bool false, .bool false] := Blk.alloc (Blk.alloc (Blk.new W 57 _) _) _
  have hV : Vars (((W.alloc (.cells #[.bool false, .bool false] 57)).alloc (.cells #[.pointer (some ⟨p, 0, none⟩)] 55)).alloc (.cells #[.int .i64 0] 3)) (W.heap.size + 1 + 1) (W.heap.size + 1) p 0 :=
    ⟨by rw [Blk.cell hB2]; rfl, Blk.frozen hB2 0, by rw [Blk.cell hB1]; rfl, by omega, by omega⟩
  have HN := Lib.hid (next_tok hT (hS.below hb2) hn hV)
  have HB := Lib.hid hb2
  have HBB := Lib.hid (And.intro hB0 hB1)
  have HS := Lib.hid hS
  have hzz : W.heap.size + 3 ≤ (((W.alloc (.cells #[.bool false, .bool false] 57)).alloc (.cells #[.pointer (some ⟨p, 0, none⟩)] 55)).alloc (.cells #[.int .i64 0] 3)).heap.size := by omega
  have HZ := Lib.hid hzz
  clear hT hB0 hB1 hB2 hV hb0 hb1 hb2 hz0 hz1 hz2 hS hzz
  go_enter Tryz.func27, Tryz.ntmps27
  go_wp2_with (go_at_call 73; refine (lex_any _ _).mono ?_; rintro x w' ⟨rfl, rfl⟩)
  refine HN.out.mono ?_
  rintro x W1 ⟨rfl, k0, k1, kg⟩
  obtain ⟨hB0, hB1⟩ := HBB.out
  have hB0' : Blk W1 W.heap.size 57 #[.bool false, .bool false] := Blk.grown hB0 kg (by intro e; injection e with e; omega)
  have hB1' : Blk W1 (W.heap.size + 1) 55 #[.pointer (some ⟨p, 0, none⟩)] := Blk.grown hB1 kg (by intro e; injection e with e; omega)
  have o0 : W1.cell? ⟨W.heap.size, 0, none⟩ = some (.bool false) := by rw [Blk.cell hB0']; rfl
  have o1 : W1.cell? ⟨W.heap.size, 1, none⟩ = some (.bool false) := by rw [Blk.cell hB0']; rfl
  have hzs := HZ.out
  have hks := kg.size
  have hb : Below W.heap.size W W1 := below_of_only HB.out kg (by omega) (by omega)
  have HB1 := Lib.hid hB1'
  have HBW := Lib.hid hb
  have HG := Lib.hid (And.intro k0 k1)
  have hw1 : W.heap.size + 3 ≤ W1.heap.size := by omega
  have hlt0 : W.heap.size < W1.heap.size := by omega
  clear hB0 hB1 hB0' hB1' hb k0 k1 kg hzs hks HBB HB HZ HN
  go_wp2_with fail
  go_ret2
  have hF := ps_made HS.out hbp HBW.out HB1.out HG.out.1 HG.out.2 hw1 k2 s2 e2 v2
  clear HS HBW HB1 HG o0 o1 hw1
  obtain ⟨hF1, hF2⟩ := hF
  refine ⟨W1.heap.size + 1, W.heap.size + 1 + 1, W.heap.size + 1, e2, rfl, ?_, Nat.le_succ _, ?_⟩
  · exact hF1
  · exact hF2

end Go.Proofs.YtannihddhebcpaaGreatDoor
