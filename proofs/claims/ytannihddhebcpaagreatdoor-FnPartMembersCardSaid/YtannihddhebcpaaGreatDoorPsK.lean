/- THE PARSER's DOORS: ReadPart; the names of named types. -/
import Derived.Test.YtannihddhebcpaaGreatDoorPsJ
import Derived.Deep.QuietTactic
import Derived.BigQuiet
namespace Go.Proofs.YtannihddhebcpaaGreatDoor
open Go.RowKit

theorem below_keep {q g B : Nat} {w W w' : World} (hb : Below B w W) (hk : Keep q g W w') (hB : B ≤ W.heap.size) (hq : B ≤ q) (hg : B ≤ g) : Below B w w' :=
  ⟨hk.os.trans hb.os, hk.tape.trans hb.tape, hk.output.trans hb.output, Nat.le_trans hb.size hk.size, fun i hi => (hk.block i (Nat.lt_of_lt_of_le hi hB) (by omega) (by omega)).trans (hb.block i hi)⟩
theorem NamedAll.base {w : World} {B B' p : Nat} {ms : List Nat} {ts : List Nm} (h : NamedAll w B p ms ts) (hB : B' ≤ B) : NamedAll w B' p ms ts := ⟨h.1, fun j m t hm ht => (h.2 j m t hm ht).base hB⟩

set_option maxHeartbeats 3200000 in
set_option maxRecDepth 100000 in
theorem readPartP_any (s : ByteArray) (ha : Ascii s.data.toList) (hn : s.size ≤ 2199023255552) {s2 e2 : Nat} {v2 : ByteArray} (hT : TokAt s.data.toList 0 15 s2 e2 v2) (he : 0 < e2) {z : Nat} {r : List Nm} (hM : Mems s.data.toList z e2 r) (hr : r.length ≤ 1000) (w : World) :
    Calls Tryz.prog 11 #[.string ⟨#[109, 101, 109, 98, 101, 114, 115]⟩, .string s] w fun x w' => ∃ A c ms B p, x = .returned (.tuple #[.slice A (r.length + 1) c, .int .i64 (z : Int), .nilIface]) ∧ w.heap.size ≤ B ∧ w'.ownsRow B 20 1 (.slice A (r.length + 1) c) (r.length + 1) (ifs ms) ∧ NamedAll w' w.heap.size p ms ((s2, e2, v2) :: r) ∧ Below w.heap.size w w' := by
  have HB := Lib.hid (begin_any s ha hn hT w)
  have HM := Lib.hid hM
  have hn2 : s.size ≤ 4611686018427387904 := Nat.le_trans hn (by decide)
  clear hT hM ha
  go_enter Tryz.func11, Tryz.ntmps11
  go_wp2_with fail
  refine HB.out.mono ?_
  rintro x W1 ⟨q, g, h, p, b, cap, i, rfl, hp, hb, hbl⟩
  have hqg := hp.gq
  have hgh := hp.hg
  have hph := hp.ph
  have hbp := hp.bp
  have HPA := Lib.hid (part_any hp hn2 he HM.out hr)
  have HBL := Lib.hid hbl
  clear hp hbl HB
  go_wp2_with fail
  refine HPA.out.mono ?_
  rintro x W2 ⟨A, c, ms, B, rfl, hB, ho, hnm, ⟨i3, prev3, e3, v3, hp3⟩, hk⟩
  obtain ⟨c0, c1, c2, c3, c4, c5, c6, c7, c8⟩ := hp3.cells
  have HO := Lib.hid ho
  have hsz := HBL.out.size
  have hsz2 := hk.size
  have HN := Lib.hid (hnm.base HBL.out.size)
  have HB2 := Lib.hid (below_keep HBL.out hk HBL.out.size (by omega) (by omega))
  have hB2 : w.heap.size ≤ B := Nat.le_trans hsz hB
  clear ho hnm hp3 hk HPA c0 c1 c2 c3 c4 c5 c7 c8 hsz hsz2 hB
  go_wp2_with fail
  go_quiet (fail)
  go_wp2_with fail
  go_ret3
  exact ⟨A, c, ms, B, p, rfl, hB2, HO.out, HN.out.mono (fun _ _ _ _ _ _ h => h), below_drewN HB2.out _⟩

set_option maxHeartbeats 1600000 in
set_option maxRecDepth 100000 in
theorem text_any {W : World} {d : Nat} {c0 c1 : Value} {v : ByteArray} (h : Blk W d 82 #[c0, c1, .string v]) :
    Calls Tryz.prog 21 #[.pointer (some ⟨d, 0, none⟩)] W fun x w' => x = .returned (.string v) ∧ W = w' := by
  obtain ⟨k0, k1, k2, kf⟩ := blk3 h
  clear h
  go_enter Tryz.func21, Tryz.ntmps21
  go_wp2_with fail
  go_ret
  exact ⟨rfl, rfl⟩

set_option maxHeartbeats 1600000 in
set_option maxRecDepth 100000 in
theorem on_any {W : World} {B p m s e : Nat} {v : ByteArray} (h : NamedAt W B p m s e v) :
    Calls Tryz.prog 20 #[.pointer (some ⟨m, 0, none⟩)] W fun x w' => x = .returned (.string v) ∧ W = w' := by
  obtain ⟨c, d, _, _, b1, _, c1, b3⟩ := h.blk
  obtain ⟨k0, k1, k2, kf⟩ := blk3 b1
  have HT := Lib.hid (text_any b3)
  clear h b1 b3
  go_enter Tryz.func20, Tryz.ntmps20
  go_wp2_with fail
  refine HT.out.mono ?_
  rintro x w' ⟨rfl, rfl⟩
  go_wp2_with fail
  go_ret
  exact ⟨rfl, rfl⟩

end Go.Proofs.YtannihddhebcpaaGreatDoor
