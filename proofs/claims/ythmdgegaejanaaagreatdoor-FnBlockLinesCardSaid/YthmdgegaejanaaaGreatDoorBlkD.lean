/- BLOCK STRINGS: a row of lines that the call owns; blockStringValue where the lines are not set in. -/
import Derived.Test.YthmdgegaejanaaaGreatDoorBlkC
import Derived.Test.YthmdgegaejanaaaGreatDoorShelf2
import Derived.Deep.RegionLaw
namespace Go.Proofs.YthmdgegaejanaaaGreatDoor
open Go.RowKit

/-- Block g holds n lines, one cell each. -/
structure Rows_ (w W : World) (g n cap : Nat) (f : Nat → ByteArray) : Prop where
  cell : ∀ i, i < n → W.cell? ⟨g, i, none⟩ = some (.string (f i))
  free : ∀ i, W.frozen? ⟨g, i, none⟩ = false
  lo : w.heap.size ≤ g
  hi : g < W.heap.size
  room : n ≤ cap
  top : cap ≤ maxLen
  below : Below w.heap.size w W

theorem Rows_.of_own {w W : World} {A : Option Addr} {c : Nat} {l : List ByteArray} (h0 : 0 < l.length) (h : W.ownsRow w.heap.size 9 1 (.slice A l.length c) l.length (strs l)) (hb : Below w.heap.size w W) :
    ∃ g, A = some ⟨g, 0, none⟩ ∧ Rows_ w W g l.length c (fun i => l.getD i ⟨#[]⟩) := by
  have h' := h
  obtain ⟨_, hh⟩ := h
  rcases hh with ⟨_, hh⟩ | ⟨g, cap, cur, hv, hlo, hg, hn, hm, hs, ht⟩
  · omega
  · injection hv with hA _ hc
    subst hA hc
    refine ⟨g, rfl, fun i hi => ?_, fun i => h'.frozenAt i, hlo, (h'.lt g rfl).2, hn, hm, hb⟩
    rw [h'.cellAt i (by omega)]
    simp [strs, List.getD, hi]

theorem Rows_.later {w W W' : World} {g n cap : Nat} {f : Nat → ByteArray} (h : Rows_ w W g n cap f) (hb : Below W.heap.size W W') : Rows_ w W' g n cap f :=
  ⟨fun i hi => (hb.cell (p := ⟨g, i, none⟩) h.hi).trans (h.cell i hi), fun i => (hb.frozen (p := ⟨g, i, none⟩) h.hi).trans (h.free i), h.lo, Nat.lt_of_lt_of_le h.hi hb.size, h.room, h.top, h.below.trans (hb.mono h.below.size)⟩

theorem Rows_.drew {w W : World} {g n cap : Nat} {f : Nat → ByteArray} (h : Rows_ w W g n cap f) : Rows_ w W.drew g n cap f :=
  ⟨h.cell, h.free, h.lo, h.hi, h.room, h.top, ⟨h.below.os, h.below.tape, h.below.output, h.below.size, h.below.block⟩⟩
theorem Rows_.put {w W : World} {g n cap : Nat} {f : Nat → ByteArray} (h : Rows_ w W g n cap f) (i : Nat) (hi : i < n) (v : ByteArray) : Rows_ w (W.setCell ⟨g, i, none⟩ (.string v)) g n cap (fun j => if j = i then v else f j) := by
  refine ⟨fun j hj => ?_, fun j => by rw [World.frozen?_setCell]; exact h.free j, h.lo, by simpa [World.setCell] using h.hi, h.room, h.top, h.below.setCell h.lo _⟩
  by_cases e : j = i
  · subst e
    rw [if_pos rfl]
    exact World.cell?_setCell_same _ _ _ (h.cell j hj)
  · rw [if_neg e, World.cell?_setCell_other _ _ _ _ (by intro e2; injection e2 with _ e3; exact e e3.symm)]
    exact h.cell j hj

set_option maxHeartbeats 6400000 in
set_option maxRecDepth 100000 in
theorem value_zero (s : ByteArray) (k : Nat) (hk : 0 < k) (hk2 : k ≤ 1000) (z : Nat → ByteArray) (want : ByteArray)
    (hL : ∀ w, Calls Tryz.prog 62 #[.string s] w fun x W => ∃ g cap, x = .returned (.slice (some ⟨g, 0, none⟩) (k + 2) cap) ∧ Rows_ w W g (k + 2) cap z)
    (h1 : ∀ w, Calls Tryz.prog 63 #[.string (z 1)] w fun x w' => x = .returned (.int .i64 0) ∧ Below w.heap.size w w') (hs1 : 0 < (z 1).size)
    (b0 : ∀ w, Calls Tryz.prog 64 #[.string (z 0)] w fun x w' => x = .returned (.bool true) ∧ Below w.heap.size w w')
    (bm : ∀ i, 1 ≤ i → i ≤ k → ∀ w, Calls Tryz.prog 64 #[.string (z i)] w fun x w' => x = .returned (.bool false) ∧ Below w.heap.size w w')
    (bz : ∀ w, Calls Tryz.prog 64 #[.string (z (k + 1))] w fun x w' => x = .returned (.bool true) ∧ Below w.heap.size w w')
    (hJ : ∀ w g cap, (∀ i, i < k + 2 → w.cell? ⟨g, i, none⟩ = some (.string (z i))) → g < w.heap.size → k ≤ cap → Calls Tryz.prog 65 #[.slice (some ⟨g, 1, none⟩) k cap, .string ⟨#[10]⟩] w fun x w' => x = .returned (.string want) ∧ Below w.heap.size w w') (w : World) :
    Calls Tryz.prog 48 #[.string s] w fun x w' => x = .returned (.string want) ∧ Below w.heap.size w w' := by
  have HL := Lib.hid hL
  have H1 := Lib.hid h1
  have HB0 := Lib.hid b0
  have HBM := Lib.hid bm
  have HBZ := Lib.hid bz
  have HJ := Lib.hid hJ
  clear hL h1 b0 bm bz hJ
  obtain ⟨i0, hi0, hz0, hz1, hz2⟩ := info_parts info9
  go_enter Tryz.func48, Tryz.ntmps48
  go_wp2_with fail
  refine (HL.out _).mono ?_
  rintro x W ⟨g, cap, rfl, hR⟩
  have HR := Lib.hid hR
  have k1 := hR.cell 1 (by omega)
  have hcap := hR.room
  have hmax := hR.top
  clear hR
  unfold maxLen at hmax
  have hroom : k + 0 ≤ cap - 1 := by omega
  have hroom2 : k ≤ cap - 1 := by omega
  obtain ⟨A, hA, hA2⟩ : ∃ A : Addr, (if cap = k + 2 then some (⟨g, 1, none⟩ : Addr) else some ⟨g, 1 + (k + 1), none⟩) = some A ∧ (if cap - 1 = k + 1 then some (⟨g, 1, none⟩ : Addr) else some ⟨g, 1 + (k + 1), none⟩) = some A := by
    by_cases e : cap = k + 2
    · exact ⟨⟨g, 1, none⟩, by rw [if_pos e], by rw [if_pos (by omega)]⟩
    · exact ⟨⟨g, 1 + (k + 1), none⟩, by rw [if_neg e], by rw [if_neg (by omega)]⟩
  have hwr : IntKind.i64.wrap ((k : Int) + 1) = (k : Int) + 1 := by rw [IntKind.wrap_i64]; omega
  have hp0 : (0 : Int) ≤ (k : Int) + 1 := by omega
  have hp2 : ((k : Int) + 1).toNat = k + 1 := by omega
  go_wp2_with fail
  refine wp_loop_rounds 1 ?_
  rw [rounds_succ]
  go_wp2_with fail
  refine (H1.out _).mono ?_
  rintro x W1 ⟨rfl, hb⟩
  have HR1 := Lib.hid (HR.out.later hb)
  clear hb k1 HR
  go_wp2_with fail
  -- the first line is blank, the second is not
  have q0 := HR1.out.cell 0 (by omega)
  refine wp_loop_rounds 2 ?_
  rw [rounds_succ]
  go_wp2_with fail
  refine (HB0.out _).mono ?_
  rintro x W2 ⟨rfl, hb⟩
  have HR2 := Lib.hid (HR1.out.later hb)
  clear hb q0 HR1
  go_wp2_with fail
  have q1 := HR2.out.cell 1 (by omega)
  rw [rounds_succ]
  go_wp2_with fail
  refine (HBM.out 1 (by omega) (by omega) _).mono ?_
  rintro x W3 ⟨rfl, hb⟩
  have HR3 := Lib.hid (HR2.out.later hb)
  clear hb q1 HR2
  have qk : W3.cell? ⟨g, 1 + k, none⟩ = some (.string (z (k + 1))) := by rw [Nat.add_comm]; exact HR3.out.cell (k + 1) (by omega)
  go_wp2_with fail
  refine wp_loop_rounds 2 ?_
  rw [rounds_succ]
  go_wp2_with fail
  refine (HBZ.out _).mono ?_
  rintro x W4 ⟨rfl, hb⟩
  have HR4 := Lib.hid (HR3.out.later hb)
  clear hb qk HR3
  go_wp2_with fail
  go_region_law (refine step_append_room rfl (.tmp 89) (.tmp 93) 22 rfl 9 i0 1 Tryz.underlying22 hi0 hz1 g 1 k (cap - 1) (by simp [Act.eval, Act.put]) A 0 (cap - 1 - (k + 1)) [] (by simp [Act.eval, Act.put]) rfl (fun j u hj => by simp at hj) (fun u hu => by simp at hu) hroom (fun j hj => by simp at hj) ?_)
  all_goals
    rw [show W4.drew.setCells g (1 + k) [] = W4.drew from rfl]
    have HR5 := Lib.hid HR4.out.drew
    have qk2 : W4.drew.cell? ⟨g, 1 + (k - 1), none⟩ = some (.string (z k)) := by rw [show 1 + (k - 1) = k by omega]; exact HR5.out.cell k (by omega)
    have hp3 : ((k : Int) - 1).toNat = k - 1 := by omega
    generalize W4.drew = W5 at *
    go_wp2_with fail
    rw [rounds_succ]
    go_wp2_with fail
    refine (HBM.out k (by omega) (by omega) _).mono ?_
    rintro x W6 ⟨rfl, hb⟩
    have HR6 := Lib.hid (HR5.out.later hb)
    clear hb qk2 HR4
    go_wp2_with fail
    refine (HJ.out W6 g (cap - 1) HR6.out.cell HR6.out.hi (by omega)).mono ?_
    rintro x W7 ⟨rfl, hb⟩
    have HB7 := Lib.hid (HR6.out.below.trans (hb.mono HR6.out.below.size))
    clear hb
    go_wp2_with fail
    go_ret
    exact ⟨rfl, HB7.out⟩

end Go.Proofs.YthmdgegaejanaaaGreatDoor
