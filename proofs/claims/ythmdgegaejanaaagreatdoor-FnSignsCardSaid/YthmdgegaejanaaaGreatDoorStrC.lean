/- STRINGS (readString): a backslash and a sign that means nothing behind it. -/
import Derived.Test.YthmdgegaejanaaaGreatDoorStrB
namespace Go.Proofs.YthmdgegaejanaaaGreatDoor
open Go.RowKit

def Escaped (c : Int) : Prop := c = 34 ∨ c = 47 ∨ c = 92 ∨ c = 98 ∨ c = 102 ∨ c = 110 ∨ c = 114 ∨ c = 116 ∨ c = 117

set_option maxHeartbeats 3200000 in
set_option maxRecDepth 100000 in
theorem str_escBad {w : World} {p b n cap : Nat} {l : List UInt8} (hS : Src w p b n cap l) (he : NoEnds l) (hn : n ≤ 140737488355328) (h4 : 3 ≤ n) (c : Int) (e1 : ch l 1 = 92) (e2 : ch l 2 = c) (hc : ¬ Escaped c) :
    Calls Tryz.prog 32 #[.pointer (some ⟨p, 0, none⟩), .int .i64 0] w fun x w' => Res 0 0 0 ⟨#[]⟩ true x ∧ Below w.heap.size w w' := by
  obtain ⟨c1, c2, c3⟩ := hS.cells
  have hcap := hS.cap
  have hlt := hS.body.lt
  have hb1 := fun o => (Below.refl _ w).alloc (Nat.le_refl _) o
  have hB1 : ∀ o o', Body ((w.alloc o).alloc o') b n l := fun o o' => (hS.body.below (hb1 o)).below ((Below.refl _ _).alloc (Nat.le_refl _) o')
  have d1 : ∀ o o', ((w.alloc o).alloc o').cell? ⟨p, 0, none⟩ = some (.slice (some ⟨b, 0, none⟩) n cap) := fun o o' => ((hS.below (hb1 o)).below ((Below.refl _ _).alloc (Nat.le_refl _) o')).cell
  have HW : Hid (∀ o c, Calls Tryz.prog 47 #[.pointer (some ⟨w.heap.size + 1, 0, none⟩), .slice (some ⟨b, 1, none⟩) 0 c] ((w.alloc o).alloc (.cells #[.slice none 0 0, .int .i64 0, .int .i8 0] 78)) fun x w' => x = .returned (.tuple #[.int .i64 0, .nilIface]) ∧ Lib.IsBuffer 78 5 (w.heap.size + 1) (w.heap.size + 1) [] w' ∧ Below (w.heap.size + 1) ((w.alloc o).alloc (.cells #[.slice none 0 0, .int .i64 0, .int .i8 0] 78)) w') := fun o c => by
    have hf := Lib.fresh_isBuffer 78 5 (w.alloc o)
    rw [show (w.alloc o).heap.size = w.heap.size + 1 by simp] at hf
    exact write_none hf (by simp) (by simp) (by omega) (by simp)
  have HB := Lib.hid hB1
  have HR1 := Lib.hid (fun o o' => runeAt_in (hB1 o o') cap 1 (by omega) (by omega) 92 e1)
  have hsl1 : ∀ W, (Instr.slice 32 (.slice (some ⟨b, 0, none⟩) n cap) (some (.int .i64 1)) (some (.int .i64 1)) none).run Tryz.prog W = .ok (.slice (some ⟨b, 1, none⟩) 0 (cap - 1)) W := fun W => run_cut0 W b n cap 1 1 (by omega) (by omega) (by omega)
  unfold Escaped at hc
  have b1 : (c == 34) = false := by simp; omega
  have b2 : (c == 47) = false := by simp; omega
  have b3 : (c == 92) = false := by simp; omega
  have b4 : (c == 98) = false := by simp; omega
  have b5 : (c == 102) = false := by simp; omega
  have b6 : (c == 110) = false := by simp; omega
  have b7 : (c == 114) = false := by simp; omega
  have b8 : (c == 116) = false := by simp; omega
  have b9 : (c == 117) = false := by simp; omega
  have HS := Lib.hid hS
  clear c3 hb1 hB1 hc hS
  go_enter Tryz.func32, Tryz.ntmps32
  go_wp2_with fail
  refine wp_loop_rounds 1 ?_
  rw [rounds_succ]
  go_wp2_with fail
  refine (HR1.out _ _).mono ?_
  rintro x w' ⟨rfl, rfl⟩
  go_wp2_with fail
  refine (HW.out _ _).mono ?_
  rintro x W2 ⟨rfl, hI2, hb2⟩
  have hBody2 := (HB.out _ _).later hb2 (by omega)
  have hx : Below (w.alloc (.cells #[.int .i64 0, .int .i64 0, .int .i64 0, .string ⟨#[]⟩] 48)).heap.size (w.alloc (.cells #[.int .i64 0, .int .i64 0, .int .i64 0, .string ⟨#[]⟩] 48)) W2 := ((Below.refl _ _).alloc (Nat.le_refl _) _).trans (hb2.mono (by simp))
  have hV2 : Below w.heap.size w W2 := ((Below.refl _ w).alloc (Nat.le_refl _) (.cells #[.int .i64 0, .int .i64 0, .int .i64 0, .string ⟨#[]⟩] 48)).trans (hx.mono (by simp))
  have HX := Lib.hid hx
  have HR2 := Lib.hid (runeAt_in hBody2 cap 2 (by omega) (by omega) c e2)
  have HE := Lib.hid (fun i (h0 : 0 ≤ i) (h1 : i ≤ 4611686018427387904) d => syntaxError_any (HS.out.below hV2) he (by omega) i h0 h1 d)
  have HV2 := Lib.hid hV2
  clear hx hb2 hI2 hBody2 HW HR1 HB hV2
  go_wp2_with fail
  refine HR2.out.mono ?_
  rintro x w' ⟨rfl, rfl⟩
  go_wp2_with fail
  refine (HE.out _ (by omega) (by omega) _).mono ?_
  rintro x W3 ⟨⟨aerr, rfl⟩, hb3⟩
  have hx3 := HX.out.trans (hb3.mono (by have := HX.out.size; simpa using this))
  have HV3 := Lib.hid (HV2.out.trans (hb3.mono HV2.out.size))
  obtain ⟨a0, a1, a2, a3, af, alt⟩ := box4 hx3
  clear hx3 hb3
  go_wp2_with fail
  have s0 : ∀ u : Value, (W3.setCell ⟨w.heap.size, 0, none⟩ u).cell? ⟨w.heap.size, 0, none⟩ = some u := fun u => World.cell?_setCell_same _ _ _ a0
  refine bodyPost_ret (v := .tuple #[.agg #[.int .i64 0, .int .i64 0, .int .i64 0, .string ⟨#[]⟩], .iface 62 (.pointer (some aerr))]) (by simp [results, Tryz.results32, go_sem, s0, a1, a2, a3]) rfl ⟨⟨_, rfl⟩, ?_⟩
  exact (((HV3.out.setCell (Nat.le_refl _) _).setCell (Nat.le_refl _) _).setCell (Nat.le_refl _) _).setCell (Nat.le_refl _) _

end Go.Proofs.YthmdgegaejanaaaGreatDoor
