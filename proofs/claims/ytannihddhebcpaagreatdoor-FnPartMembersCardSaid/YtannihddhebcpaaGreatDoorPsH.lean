/- THE PARSER's DOORS: listed, part (the members of a union). -/
import Derived.Test.YtannihddhebcpaaGreatDoorPsG
namespace Go.Proofs.YtannihddhebcpaaGreatDoor
open Go.RowKit

def ifs (ms : List Nat) : List Value := ms.map fun m => .iface 74 (.pointer (some ⟨m, 0, none⟩))
theorem info20 : (Tryz.prog.info? 20).map (fun i => (i.zero, i.size, i.bytes)) = some (some .nilIface, 1, 16) := by kernel_rfl
theorem below_grown {w W w3 : World} {B n : Nat} {e : TypeId} {size : Nat} {v : Value} {xs : List Value} (hb : Below B w W) (hB : B ≤ w.heap.size) (hown : W.ownsRow B e size v n xs) (hg : W.grownBy w3 v.ownBlock) : Below B w w3 :=
  ⟨hg.os.trans hb.os, hg.tape.trans hb.tape, hg.output.trans hb.output, Nat.le_trans hb.size hg.size, fun i hi => (hg.block i (Nat.lt_of_lt_of_le (Nat.lt_of_lt_of_le hi hB) hb.size) (fun e => by have := (hown.lt i e.symm).1; omega)).trans (hb.block i hi)⟩

set_option maxHeartbeats 3200000 in
set_option maxRecDepth 100000 in
theorem listed_any {W : World} {B : Nat} {A : Option Addr} {c : Nat} {ms : List Nat} (hown : W.ownsRow B 74 1 (.slice A ms.length c) ms.length (ptrs ms)) (h0 : 0 < ms.length) (hn : ms.length ≤ 2000) :
    Calls Tryz.prog 34 #[.slice A ms.length c, .nilIface] W fun x w' => ∃ A2 c2, x = .returned (.tuple #[.slice A2 ms.length c2, .nilIface]) ∧ w'.ownsRow W.heap.size 20 1 (.slice A2 ms.length c2) ms.length (ifs ms) ∧ Below W.heap.size W w' := by
  obtain ⟨i0, hi0, hz0, hz1, hz2⟩ := info_parts info20
  obtain ⟨g0, cap, hv⟩ := Joins.ownsRow_form hown h0
  injection hv with hA _ hc
  subst hA hc
  have hg0 := (hown.lt g0 rfl).2
  have HC : Hid (∀ j (h : j < ms.length), W.cell? ⟨g0, j, none⟩ = some (.pointer (some ⟨ms[j], 0, none⟩))) := fun j hj => by
    rw [hown.cellAt j (by omega)]
    simp [ptrs, hj]
  have hcap : ms.length ≤ c := by
    obtain ⟨_, h2 | ⟨gg, cap, cur, hv, _, _, hr, _⟩⟩ := hown
    · omega
    · injection hv with _ _ hc; omega
  clear hown
  go_enter Tryz.func34, Tryz.ntmps34
  go_wp2_with fail
  go_loopg [6, 11] ms.length (fun m u v wr => ∃ (i : Nat) (A2 : Option Addr) (c2 : Nat), u = .slice A2 i c2 ∧ v = .int .i64 (i : Int) ∧ m = ms.length - i ∧ i ≤ ms.length ∧ Hid (wr.ownsRow W.heap.size 20 1 (.slice A2 i c2) i (ifs (ms.take i))) ∧ Hid (Below W.heap.size W wr))
  case atStart => exact ⟨0, none, 0, rfl, rfl, by omega, by omega, World.ownsRow_nil _ _ _ _, Below.refl _ _⟩
  case round =>
    obtain ⟨i, A2, c2, rfl, rfl, rfl, hi, HO, HB⟩ := hrel
    by_cases hlt : i < ms.length
    · have hc := (HB.out.cell (p := ⟨g0, i, none⟩) hg0).trans (HC.out i hlt)
      have HO2 := Lib.hid (HO.out.alloc (.cells #[.iface 74 (.pointer (some ⟨ms[i], 0, none⟩))] 20))
      have HB2 := Lib.hid (HB.out.alloc HB.out.size (.cells #[.iface 74 (.pointer (some ⟨ms[i], 0, none⟩))] 20))
      have HT : Hid (ifs (ms.take i) ++ [.iface 74 (.pointer (some ⟨ms[i], 0, none⟩))] = ifs (ms.take (i + 1))) := by
        unfold Hid ifs
        rw [List.take_succ_eq_append_getElem hlt, List.map_append]
        rfl
      clear HO HB
      go_wp2_with (at_builtin; refine wpList_append_own _ rfl (.tmp 15) (.tmp 18) 35 rfl W.heap.size 20 i0 _ 1 16 Tryz.underlying35 hi0 hz0 hz1 hz2 rfl (by decide) _ _ (ifs (ms.take i)) rfl HO2.out _ 1 1 [.iface 74 (.pointer (some ⟨ms[i], 0, none⟩))] rfl rfl ?c1 ?c2 ?c3 ?c4 ?c5 ?_)
      case c1 => exact one_cell _ _ _
      case c2 =>
        intro u hu
        simp at hu
        subst hu
        rfl
      case c3 => unfold maxLen; omega
      case c4 => omega
      case c5 => exact HB2.out.size
      intro v' w3 hown' hgrow _
      obtain ⟨A', c', hv⟩ := Joins.ownsRow_form hown' (by omega)
      subst hv
      have HB3 := Lib.hid (below_grown HB2.out (Nat.le_refl _) HO2.out hgrow)
      have HO3 : Hid (w3.ownsRow W.heap.size 20 1 (.slice (some ⟨A', 0, none⟩) (i + 1) c') (i + 1) (ifs (ms.take (i + 1)))) := by
        unfold Hid
        rw [← HT.out]
        exact hown'
      clear hown' hgrow HO2 HB2
      go_wp2_with fail
      go_roundg (ms.length - (i + 1))
      case measure => omega
      case rel => exact ⟨i + 1, _, c', rfl, by go_num, rfl, by omega, HO3, HB3⟩
    · obtain rfl : i = ms.length := by omega
      go_wp2_with fail
      go_ret2
      have ho := HO.out
      rw [List.take_length] at ho
      exact ⟨_, _, rfl, ho, HB.out⟩

set_option maxHeartbeats 3200000 in
set_option maxRecDepth 100000 in
/-- The step 'members'. -/
theorem part_any {W : World} {q g h p b n cap : Nat} {l : List UInt8} {i prev : Nat} {s e : Nat} {v : ByteArray} (H : Ps W q g h p b n cap l i prev 15 s e v) (hn : n ≤ 4611686018427387904) (he : 0 < e) {z : Nat} {r : List Nm} (hM : Mems l z e r) (hr : r.length ≤ 1000) :
    Calls Tryz.prog 14 #[.pointer (some ⟨q, 0, none⟩), .string ⟨#[109, 101, 109, 98, 101, 114, 115]⟩] W fun x w' => ∃ A c ms B, x = .returned (.tuple #[.slice A (r.length + 1) c, .nilIface]) ∧ W.heap.size ≤ B ∧ w'.ownsRow B 20 1 (.slice A (r.length + 1) c) (r.length + 1) (ifs ms) ∧ NamedAll w' W.heap.size p ms ((s, e, v) :: r) ∧ AtBrace w' q g h p b n cap l z ∧ Keep q g W w' := by
  have HM := Lib.hid (members_any H hn he hM hr)
  clear H hM
  go_enter Tryz.func14, Tryz.ntmps14
  go_wp2_with fail
  refine HM.out.mono ?_
  rintro x W1 ⟨A, c, ms, rfl, ho, hnm, ⟨i2, prev2, e2, v2, hp⟩, hk⟩
  have hl : ms.length = r.length + 1 := by rw [hnm.1]; simp
  rw [← hl] at ho
  have HL := Lib.hid (listed_any ho (by omega) (by omega))
  rw [hl] at HL
  have HN := Lib.hid hnm
  have HP := Lib.hid hp
  have HK := Lib.hid hk
  clear ho hnm hp hk HM hl
  go_wp2_with fail
  refine HL.out.mono ?_
  rintro x W2 ⟨A2, c2, rfl, ho, hb⟩
  have HO := Lib.hid ho
  have HB := Lib.hid hb
  clear ho hb HL
  go_wp2_with fail
  go_ret2
  exact ⟨A2, c2, ms, W1.heap.size, rfl, HK.out.size, HO.out, HN.out.mono (below_blk HB.out), ⟨_, _, _, _, HP.out.below HB.out⟩, below_then HK.out HB.out⟩

end Go.Proofs.YtannihddhebcpaaGreatDoor
