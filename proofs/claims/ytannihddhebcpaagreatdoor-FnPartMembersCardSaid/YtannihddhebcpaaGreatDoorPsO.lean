/- THE THIN PACKAGE: readPart, ReadPart (the members of a union). -/
import Derived.Test.YtannihddhebcpaaGreatDoorPsN
namespace Go.Proofs.YtannihddhebcpaaGreatDoor
open Go.RowKit

/-- The nodes of names. -/
def nodes (k : Int) (l : List ByteArray) : List Value := l.flatMap (node1 k)
theorem nodes_snoc (k : Int) (l : List ByteArray) (v : ByteArray) : nodes k (l ++ [v]) = nodes k l ++ node1 k v := by simp [nodes]
def names (ts : List Nm) : List ByteArray := ts.map (·.2.2)
theorem names_take (l : List Nm) (i : Nat) (h : i < l.length) : names (l.take i) ++ [(l[i]).2.2] = names (l.take (i + 1)) := by
  rw [List.take_succ_eq_append_getElem h]
  unfold names
  rw [List.map_append]
  rfl

set_option maxHeartbeats 3200000 in
set_option maxRecDepth 100000 in
theorem readPartI_any (s : ByteArray) (ha : Ascii s.data.toList) (hn : s.size ≤ 2199023255552) {s2 e2 : Nat} {v2 : ByteArray} (hT : TokAt s.data.toList 0 15 s2 e2 v2) (he : 0 < e2) {z : Nat} {r : List Nm} (hM : Mems s.data.toList z e2 r) (hr : r.length ≤ 1000) (w : World) :
    Calls Tryz.prog 10 #[.string ⟨#[109, 101, 109, 98, 101, 114, 115]⟩, .int .i64 33, .string s] w fun x w' => ∃ A c, x = .returned (.tuple #[.slice A (r.length + 1) c, .int .i64 (z : Int), .bool true]) ∧ w'.ownsRow w.heap.size 32 6 (.slice A (r.length + 1) c) (r.length + 1) (nodes 33 (names ((s2, e2, v2) :: r))) ∧ Below w.heap.size w w' := by
  have HR := Lib.hid (readPartP_any s ha hn hT he hM hr w)
  clear hT hM ha hn
  go_enter Tryz.func10, Tryz.ntmps10
  go_wp2_with fail
  refine HR.out.mono ?_
  rintro x W1 ⟨A, c, ms, B, p, rfl, hB, ho, hnm, hb⟩
  obtain ⟨g0, cap, hv⟩ := Joins.ownsRow_form ho (by omega)
  injection hv with hA _ hc
  subst hA hc
  have hms : ms.length = r.length + 1 := by rw [hnm.1]; simp
  have hg0 := (ho.lt g0 rfl).2
  have HC : Hid (∀ j (h : j < ms.length), W1.cell? ⟨g0, j, none⟩ = some (.iface 74 (.pointer (some ⟨ms[j], 0, none⟩)))) := fun j hj => by
    rw [ho.cellAt j (by omega)]
    simp [ifs, hj]
  have hcap : r.length + 1 ≤ c := by
    obtain ⟨_, h2 | ⟨gg, cap, cur, hv, _, _, hr, _⟩⟩ := ho
    · omega
    · injection hv with _ _ hc; omega
  have HNM := Lib.hid hnm
  have HB := Lib.hid hb
  have hsz := hb.size
  have HMS := Lib.hid hms
  have HT0 : Hid (Tak (W1.alloc (.cells #[.slice none 0 0, .slice none 0 0, .bool false] 43)) (W1.heap.size + 1) W1.heap.size none 0 none 0 0 0 [] []) :=
    ⟨Blk.new W1 43 _, World.ownsRow_nil _ _ _ _, World.ownsRow_nil _ _ _ _, Nat.lt_succ_self _, by simp⟩
  have HB0 := Lib.hid ((Below.refl W1.heap.size W1).alloc (Nat.le_refl _) (.cells #[.slice none 0 0, .slice none 0 0, .bool false] 43))
  have hg1 : g0 < W1.heap.size := hg0
  clear ho hnm hb hB HR hms hg0
  go_wp2_with fail
  go_loopg [27] (r.length + 1) (fun m u wr => ∃ (i : Nat) (A1 : Option Addr) (c1 : Nat) (A2 : Option Addr) (c2 : Nat) (ss : List Value), u = .int .i64 (i : Int) ∧ m = r.length + 1 - i ∧ i ≤ r.length + 1 ∧ Hid (Tak wr (W1.heap.size + 1) W1.heap.size A1 c1 A2 c2 i i (nodes 33 (names (((s2, e2, v2) :: r).take i))) ss) ∧ Hid (Below W1.heap.size W1 wr))
  case atStart => exact ⟨0, none, 0, none, 0, [], rfl, rfl, by omega, HT0, HB0⟩
  case round =>
    clear HT0 HB0
    obtain ⟨i, A1, c1, A2, c2, ss, rfl, rfl, hi, HT, HBW⟩ := hrel
    by_cases hlt : i < r.length + 1
    · have hms := HMS.out
      have hc := (HBW.out.cell (p := ⟨g0, i, none⟩) hg1).trans (HC.out i (by omega))
      have hl : i < ((s2, e2, v2) :: r).length := by simpa using hlt
      have hN := (HNM.out.2 i ms[i] (((s2, e2, v2) :: r)[i]) (List.getElem?_eq_getElem (by omega)) (List.getElem?_eq_getElem hl)).mono (below_blk HBW.out)
      have HTA := Lib.hid (take_any HT.out hN 33 (by omega))
      have HNX : Hid (nodes 33 (names (((s2, e2, v2) :: r).take i)) ++ node1 33 (((s2, e2, v2) :: r)[i]).2.2 = nodes 33 (names (((s2, e2, v2) :: r).take (i + 1)))) := by
        unfold Hid
        rw [← nodes_snoc, names_take _ _ hl]
      generalize (((s2, e2, v2) :: r)[i]).2.2 = vv at HTA HNX
      generalize ms[i] = mi at hc HTA
      clear hN hms hl
      go_wp2_with fail
      refine HTA.out.mono ?_
      rintro x w' ⟨rfl, A', c', A2', c2', ss', hT, hb⟩
      rw [HNX.out] at hT
      have HT2 := Lib.hid hT
      have HB2 := Lib.hid (HBW.out.trans hb)
      clear hT hb HTA HT HBW hc
      go_wp2_with fail
      go_roundg (r.length + 1 - (i + 1))
      case measure => omega
      case rel => exact ⟨i + 1, A', c', A2', c2', ss', by go_num, rfl, by omega, HT2, HB2⟩
    · obtain rfl : i = r.length + 1 := by omega
      obtain ⟨t0, t1, t2, tf⟩ := blk3 HT.out.blk
      go_wp2_with fail
      go_ret3
      have ho := HT.out.d
      rw [List.take_of_length_le (by simp)] at ho
      exact ⟨_, _, rfl, Joins.ownsRow_le ho (by omega), HB.out.trans (HBW.out.mono hsz)⟩

set_option maxHeartbeats 1600000 in
set_option maxRecDepth 100000 in
theorem readPartD_any (s : ByteArray) (ha : Ascii s.data.toList) (hn : s.size ≤ 2199023255552) {s2 e2 : Nat} {v2 : ByteArray} (hT : TokAt s.data.toList 0 15 s2 e2 v2) (he : 0 < e2) {z : Nat} {r : List Nm} (hM : Mems s.data.toList z e2 r) (hr : r.length ≤ 1000) (w : World) :
    Calls Tryz.prog 6 #[.int .i64 33, .string s] w fun x w' => ∃ A c, x = .returned (.tuple #[.slice A (r.length + 1) c, .int .i64 (z : Int), .bool true]) ∧ w'.ownsRow w.heap.size 32 6 (.slice A (r.length + 1) c) (r.length + 1) (nodes 33 (names ((s2, e2, v2) :: r))) ∧ Below w.heap.size w w' := by
  have HR := Lib.hid (readPartI_any s ha hn hT he hM hr w)
  clear hT hM ha hn
  go_enter Tryz.func6, Tryz.ntmps6
  go_wp2_with (go_at_call 9; refine (partName_any _).mono ?_; rintro x w' ⟨rfl, rfl⟩)
  refine HR.out.mono ?_
  rintro x W1 ⟨A, c, rfl, ho, hb⟩
  have HO := Lib.hid (And.intro ho hb)
  clear ho hb HR
  go_wp2_with fail
  go_ret3
  exact ⟨_, _, rfl, HO.out.1, HO.out.2⟩

end Go.Proofs.YtannihddhebcpaaGreatDoor
