/- STRINGS (readString): a backslash and one sign between quotation marks. -/
import Derived.Test.YthmdgegaejanaaaGreatDoorStrA
import Derived.Test.YthmdgegaejanaaaGreatDoorLexD
namespace Go.Proofs.YthmdgegaejanaaaGreatDoor
open Go.RowKit

theorem Body.later {w w' : World} {b n B : Nat} {l : List UInt8} (h : Body w b n l) (hb : Below B w w') (hB : b < B) : Body w' b n l :=
  ⟨h.len, h.ascii, by have := hb.size; have := h.lt; omega, fun i hi => (hb.cell (p := ⟨b, i, none⟩) hB).trans (h.cell i hi)⟩

/-- Nothing is written. -/
theorem write_none {W : World} {B b i c : Nat} {bs : List Value} (hI : Lib.IsBuffer 78 5 B B bs W) (hBw : B ≤ W.heap.size) (h1 : ∀ v ∈ bs, v.oneCell' = true) (hb : b < B) (hl : bs.length ≤ 100) :
    Calls Tryz.prog 47 #[.pointer (some ⟨B, 0, none⟩), .slice (some ⟨b, i, none⟩) 0 c] W fun x w' => x = .returned (.tuple #[.int .i64 0, .nilIface]) ∧ Lib.IsBuffer 78 5 B B bs w' ∧ Below B W w' := by
  have := Tryz.Buffer_Write B B bs [] ⟨b, i, none⟩ 0 c W hI hBw h1 rfl hb (by simp) (by simp) (by omega)
  simpa using this

set_option maxHeartbeats 3200000 in
set_option maxRecDepth 100000 in
theorem str_esc98 {w : World} {p b n cap : Nat} {l : List UInt8} (hS : Src w p b n cap l) (hn : n ≤ 140737488355328) (h4 : 4 ≤ n) (e1 : ch l 1 = 92) (e2 : ch l 2 = 98) (e3 : ch l 3 = 34) :
    Calls Tryz.prog 32 #[.pointer (some ⟨p, 0, none⟩), .int .i64 0] w fun x w' => Res 18 0 4 ⟨#[8]⟩ false x ∧ Below w.heap.size w w' := by
  obtain ⟨c1, c2, c3⟩ := hS.cells
  have hcap := hS.cap
  have hlt := hS.body.lt
  have hb1 := fun o => (Below.refl _ w).alloc (Nat.le_refl _) o
  have hB1 : ∀ o o', Body ((w.alloc o).alloc o') b n l := fun o o' => (hS.body.below (hb1 o)).below ((Below.refl _ _).alloc (Nat.le_refl _) o')
  have d1 : ∀ o o', ((w.alloc o).alloc o').cell? ⟨p, 0, none⟩ = some (.slice (some ⟨b, 0, none⟩) n cap) := fun o o' => ((hS.below (hb1 o)).below ((Below.refl _ _).alloc (Nat.le_refl _) o')).cell
  have HW : Hid (∀ o c, Calls Tryz.prog 47 #[.pointer (some ⟨w.heap.size + 1, 0, none⟩), .slice (some ⟨b, 1, none⟩) 0 c] ((w.alloc o).alloc (.cells #[.slice none 0 0, .int .i64 0, .int .i8 0] 78)) fun x w' => x = .returned (.tuple #[.int .i64 0, .nilIface]) ∧ Lib.IsBuffer 78 5 (w.heap.size + 1) (w.heap.size + 1) [] w' ∧ Below (w.heap.size + 1) ((w.alloc o).alloc (.cells #[.slice none 0 0, .int .i64 0, .int .i8 0] 78)) w') := fun o c => by
    have hf := Lib.fresh_isBuffer 78 5 (w.alloc o)
    rw [show (w.alloc o).heap.size = w.heap.size + 1 by simp] at hf
    exact write_none hf (by simp) (by simp) (by omega) (by simp)
  have HB := Lib.hid hB1
  have HR1 := Lib.hid (fun o o' => runeAt_in (hB1 o o') cap 1 (by omega) (by omega) 92 e1)
  have hsl1 : ∀ W, (Instr.slice 32 (.slice (some ⟨b, 0, none⟩) n cap) (some (.int .i64 1)) (some (.int .i64 1)) none).run Tryz.prog W = .ok (.slice (some ⟨b, 1, none⟩) 0 (cap - 1)) W := fun W => run_cut0 W b n cap 1 1 (by omega) (by omega) (by omega)
  have hsl3 : ∀ W, (Instr.slice 32 (.slice (some ⟨b, 0, none⟩) n cap) (some (.int .i64 3)) (some (.int .i64 3)) none).run Tryz.prog W = .ok (.slice (some ⟨b, 3, none⟩) 0 (cap - 3)) W := fun W => run_cut0 W b n cap 3 3 (by omega) (by omega) (by omega)
  clear c3 hb1 hB1
  go_enter Tryz.func32, Tryz.ntmps32
  go_wp2_with fail
  refine wp_loop_rounds 2 ?_
  rw [rounds_succ]
  go_wp2_with fail
  refine (HR1.out _ _).mono ?_
  rintro x w' ⟨rfl, rfl⟩
  go_wp2_with fail
  refine (HW.out _ _).mono ?_
  rintro x W2 ⟨rfl, hI2, hb2⟩
  have hBody2 := (HB.out _ _).later hb2 (by omega)
  have hx : Below (w.alloc (.cells #[.int .i64 0, .int .i64 0, .int .i64 0, .string ⟨#[]⟩] 48)).heap.size (w.alloc (.cells #[.int .i64 0, .int .i64 0, .int .i64 0, .string ⟨#[]⟩] 48)) W2 := ((Below.refl _ _).alloc (Nat.le_refl _) _).trans (hb2.mono (by simp))
  have hz2 : w.heap.size + 1 ≤ W2.heap.size := by have := hb2.size; simp at this; omega
  have HX := Lib.hid hx
  have HR2 := Lib.hid (runeAt_in hBody2 cap 2 (by omega) (by omega) 98 e2)
  have HWR := Lib.hid (Tryz.Buffer_WriteRune_ascii (w.heap.size + 1) (w.heap.size + 1) [] 8 (by omega) (by omega) W2 hI2 hz2 (by simp) (by simp))
  have HB2 := Lib.hid hBody2
  clear hx hb2 hI2 hBody2 HW HR1 HB
  go_wp2_with fail
  refine HR2.out.mono ?_
  rintro x w' ⟨rfl, rfl⟩
  go_wp2_with fail
  refine HWR.out.mono ?_
  rintro x W3 ⟨rfl, hI3, hb3, _⟩
  have hBody3 := HB2.out.later hb3 (by omega)
  have hz3 : w.heap.size + 1 ≤ W3.heap.size := by have := hb3.size; omega
  have HX3 := Lib.hid (HX.out.trans (hb3.mono (by simp)))
  have HR3 := Lib.hid (runeAt_in hBody3 cap 3 (by omega) (by omega) 34 e3)
  have HW3 := Lib.hid (fun c => write_none (W := W3) (b := b) (i := 3) (c := c) hI3 hz3 (by simp [Value.oneCell']) (by omega) (by simp))
  clear hb3 hI3 hBody3 HX HR2 HWR HB2
  go_wp2_with fail
  rw [rounds_succ]
  go_wp2_with fail
  refine HR3.out.mono ?_
  rintro x w' ⟨rfl, rfl⟩
  go_wp2_with fail
  refine (HW3.out _).mono ?_
  rintro x W4 ⟨rfl, hI4, hb4⟩
  have hx4 := HX3.out.trans (hb4.mono (by simp))
  have HV4 := Lib.hid (((Below.refl _ w).alloc (Nat.le_refl _) (.cells #[.int .i64 0, .int .i64 0, .int .i64 0, .string ⟨#[]⟩] 48)).trans (hx4.mono (by simp)))
  have HX4 := Lib.hid (box4 hx4)
  have HS := Lib.hid (Tryz.Buffer_String _ _ [8] W4 hI4)
  clear hb4 hI4 hx4 HX3 HR3 HW3
  go_wp2_with fail
  refine HS.out.mono ?_
  rintro x w' ⟨rfl, k, rfl⟩
  go_wp2_with fail
  refine (makeToken_any _ _ _ _ _).mono ?_
  rintro x w' ⟨rfl, rfl⟩
  obtain ⟨a0, a1, a2, a3, af, alt⟩ := HX4.out.past k (.cells #[.int .i64 18, .int .i64 0, .int .i64 4, .string ⟨#[8]⟩] 48)
  have HV := Lib.hid ((below_drewN HV4.out k).alloc (below_drewN HV4.out k).size (.cells #[.int .i64 18, .int .i64 0, .int .i64 4, .string ⟨#[8]⟩] 48))
  generalize (W4.drewN k).alloc (.cells #[.int .i64 18, .int .i64 0, .int .i64 4, .string ⟨#[8]⟩] 48) = V at *
  go_wp2_with fail
  have s0 : ∀ u : Value, (V.setCell ⟨w.heap.size, 0, none⟩ u).cell? ⟨w.heap.size, 0, none⟩ = some u := fun u => World.cell?_setCell_same _ _ _ a0
  refine bodyPost_ret (v := .tuple #[.agg #[.int .i64 18, .int .i64 0, .int .i64 4, .string ⟨#[8]⟩], .nilIface]) (by simp [results, Tryz.results32, go_sem, s0, a1, a2, a3]) rfl ⟨rfl, ?_⟩
  exact (((HV.out.setCell (Nat.le_refl _) _).setCell (Nat.le_refl _) _).setCell (Nat.le_refl _) _).setCell (Nat.le_refl _) _

set_option maxHeartbeats 3200000 in
set_option maxRecDepth 100000 in
theorem str_esc102 {w : World} {p b n cap : Nat} {l : List UInt8} (hS : Src w p b n cap l) (hn : n ≤ 140737488355328) (h4 : 4 ≤ n) (e1 : ch l 1 = 92) (e2 : ch l 2 = 102) (e3 : ch l 3 = 34) :
    Calls Tryz.prog 32 #[.pointer (some ⟨p, 0, none⟩), .int .i64 0] w fun x w' => Res 18 0 4 ⟨#[12]⟩ false x ∧ Below w.heap.size w w' := by
  obtain ⟨c1, c2, c3⟩ := hS.cells
  have hcap := hS.cap
  have hlt := hS.body.lt
  have hb1 := fun o => (Below.refl _ w).alloc (Nat.le_refl _) o
  have hB1 : ∀ o o', Body ((w.alloc o).alloc o') b n l := fun o o' => (hS.body.below (hb1 o)).below ((Below.refl _ _).alloc (Nat.le_refl _) o')
  have d1 : ∀ o o', ((w.alloc o).alloc o').cell? ⟨p, 0, none⟩ = some (.slice (some ⟨b, 0, none⟩) n cap) := fun o o' => ((hS.below (hb1 o)).below ((Below.refl _ _).alloc (Nat.le_refl _) o')).cell
  have HW : Hid (∀ o c, Calls Tryz.prog 47 #[.pointer (some ⟨w.heap.size + 1, 0, none⟩), .slice (some ⟨b, 1, none⟩) 0 c] ((w.alloc o).alloc (.cells #[.slice none 0 0, .int .i64 0, .int .i8 0] 78)) fun x w' => x = .returned (.tuple #[.int .i64 0, .nilIface]) ∧ Lib.IsBuffer 78 5 (w.heap.size + 1) (w.heap.size + 1) [] w' ∧ Below (w.heap.size + 1) ((w.alloc o).alloc (.cells #[.slice none 0 0, .int .i64 0, .int .i8 0] 78)) w') := fun o c => by
    have hf := Lib.fresh_isBuffer 78 5 (w.alloc o)
    rw [show (w.alloc o).heap.size = w.heap.size + 1 by simp] at hf
    exact write_none hf (by simp) (by simp) (by omega) (by simp)
  have HB := Lib.hid hB1
  have HR1 := Lib.hid (fun o o' => runeAt_in (hB1 o o') cap 1 (by omega) (by omega) 92 e1)
  have hsl1 : ∀ W, (Instr.slice 32 (.slice (some ⟨b, 0, none⟩) n cap) (some (.int .i64 1)) (some (.int .i64 1)) none).run Tryz.prog W = .ok (.slice (some ⟨b, 1, none⟩) 0 (cap - 1)) W := fun W => run_cut0 W b n cap 1 1 (by omega) (by omega) (by omega)
  have hsl3 : ∀ W, (Instr.slice 32 (.slice (some ⟨b, 0, none⟩) n cap) (some (.int .i64 3)) (some (.int .i64 3)) none).run Tryz.prog W = .ok (.slice (some ⟨b, 3, none⟩) 0 (cap - 3)) W := fun W => run_cut0 W b n cap 3 3 (by omega) (by omega) (by omega)
  clear c3 hb1 hB1
  go_enter Tryz.func32, Tryz.ntmps32
  go_wp2_with fail
  refine wp_loop_rounds 2 ?_
  rw [rounds_succ]
  go_wp2_with fail
  refine (HR1.out _ _).mono ?_
  rintro x w' ⟨rfl, rfl⟩
  go_wp2_with fail
  refine (HW.out _ _).mono ?_
  rintro x W2 ⟨rfl, hI2, hb2⟩
  have hBody2 := (HB.out _ _).later hb2 (by omega)
  have hx : Below (w.alloc (.cells #[.int .i64 0, .int .i64 0, .int .i64 0, .string ⟨#[]⟩] 48)).heap.size (w.alloc (.cells #[.int .i64 0, .int .i64 0, .int .i64 0, .string ⟨#[]⟩] 48)) W2 := ((Below.refl _ _).alloc (Nat.le_refl _) _).trans (hb2.mono (by simp))
  have hz2 : w.heap.size + 1 ≤ W2.heap.size := by have := hb2.size; simp at this; omega
  have HX := Lib.hid hx
  have HR2 := Lib.hid (runeAt_in hBody2 cap 2 (by omega) (by omega) 102 e2)
  have HWR := Lib.hid (Tryz.Buffer_WriteRune_ascii (w.heap.size + 1) (w.heap.size + 1) [] 12 (by omega) (by omega) W2 hI2 hz2 (by simp) (by simp))
  have HB2 := Lib.hid hBody2
  clear hx hb2 hI2 hBody2 HW HR1 HB
  go_wp2_with fail
  refine HR2.out.mono ?_
  rintro x w' ⟨rfl, rfl⟩
  go_wp2_with fail
  refine HWR.out.mono ?_
  rintro x W3 ⟨rfl, hI3, hb3, _⟩
  have hBody3 := HB2.out.later hb3 (by omega)
  have hz3 : w.heap.size + 1 ≤ W3.heap.size := by have := hb3.size; omega
  have HX3 := Lib.hid (HX.out.trans (hb3.mono (by simp)))
  have HR3 := Lib.hid (runeAt_in hBody3 cap 3 (by omega) (by omega) 34 e3)
  have HW3 := Lib.hid (fun c => write_none (W := W3) (b := b) (i := 3) (c := c) hI3 hz3 (by simp [Value.oneCell']) (by omega) (by simp))
  clear hb3 hI3 hBody3 HX HR2 HWR HB2
  go_wp2_with fail
  rw [rounds_succ]
  go_wp2_with fail
  refine HR3.out.mono ?_
  rintro x w' ⟨rfl, rfl⟩
  go_wp2_with fail
  refine (HW3.out _).mono ?_
  rintro x W4 ⟨rfl, hI4, hb4⟩
  have hx4 := HX3.out.trans (hb4.mono (by simp))
  have HV4 := Lib.hid (((Below.refl _ w).alloc (Nat.le_refl _) (.cells #[.int .i64 0, .int .i64 0, .int .i64 0, .string ⟨#[]⟩] 48)).trans (hx4.mono (by simp)))
  have HX4 := Lib.hid (box4 hx4)
  have HS := Lib.hid (Tryz.Buffer_String _ _ [12] W4 hI4)
  clear hb4 hI4 hx4 HX3 HR3 HW3
  go_wp2_with fail
  refine HS.out.mono ?_
  rintro x w' ⟨rfl, k, rfl⟩
  go_wp2_with fail
  refine (makeToken_any _ _ _ _ _).mono ?_
  rintro x w' ⟨rfl, rfl⟩
  obtain ⟨a0, a1, a2, a3, af, alt⟩ := HX4.out.past k (.cells #[.int .i64 18, .int .i64 0, .int .i64 4, .string ⟨#[12]⟩] 48)
  have HV := Lib.hid ((below_drewN HV4.out k).alloc (below_drewN HV4.out k).size (.cells #[.int .i64 18, .int .i64 0, .int .i64 4, .string ⟨#[12]⟩] 48))
  generalize (W4.drewN k).alloc (.cells #[.int .i64 18, .int .i64 0, .int .i64 4, .string ⟨#[12]⟩] 48) = V at *
  go_wp2_with fail
  have s0 : ∀ u : Value, (V.setCell ⟨w.heap.size, 0, none⟩ u).cell? ⟨w.heap.size, 0, none⟩ = some u := fun u => World.cell?_setCell_same _ _ _ a0
  refine bodyPost_ret (v := .tuple #[.agg #[.int .i64 18, .int .i64 0, .int .i64 4, .string ⟨#[12]⟩], .nilIface]) (by simp [results, Tryz.results32, go_sem, s0, a1, a2, a3]) rfl ⟨rfl, ?_⟩
  exact (((HV.out.setCell (Nat.le_refl _) _).setCell (Nat.le_refl _) _).setCell (Nat.le_refl _) _).setCell (Nat.le_refl _) _

set_option maxHeartbeats 3200000 in
set_option maxRecDepth 100000 in
theorem str_esc110 {w : World} {p b n cap : Nat} {l : List UInt8} (hS : Src w p b n cap l) (hn : n ≤ 140737488355328) (h4 : 4 ≤ n) (e1 : ch l 1 = 92) (e2 : ch l 2 = 110) (e3 : ch l 3 = 34) :
    Calls Tryz.prog 32 #[.pointer (some ⟨p, 0, none⟩), .int .i64 0] w fun x w' => Res 18 0 4 ⟨#[10]⟩ false x ∧ Below w.heap.size w w' := by
  obtain ⟨c1, c2, c3⟩ := hS.cells
  have hcap := hS.cap
  have hlt := hS.body.lt
  have hb1 := fun o => (Below.refl _ w).alloc (Nat.le_refl _) o
  have hB1 : ∀ o o', Body ((w.alloc o).alloc o') b n l := fun o o' => (hS.body.below (hb1 o)).below ((Below.refl _ _).alloc (Nat.le_refl _) o')
  have d1 : ∀ o o', ((w.alloc o).alloc o').cell? ⟨p, 0, none⟩ = some (.slice (some ⟨b, 0, none⟩) n cap) := fun o o' => ((hS.below (hb1 o)).below ((Below.refl _ _).alloc (Nat.le_refl _) o')).cell
  have HW : Hid (∀ o c, Calls Tryz.prog 47 #[.pointer (some ⟨w.heap.size + 1, 0, none⟩), .slice (some ⟨b, 1, none⟩) 0 c] ((w.alloc o).alloc (.cells #[.slice none 0 0, .int .i64 0, .int .i8 0] 78)) fun x w' => x = .returned (.tuple #[.int .i64 0, .nilIface]) ∧ Lib.IsBuffer 78 5 (w.heap.size + 1) (w.heap.size + 1) [] w' ∧ Below (w.heap.size + 1) ((w.alloc o).alloc (.cells #[.slice none 0 0, .int .i64 0, .int .i8 0] 78)) w') := fun o c => by
    have hf := Lib.fresh_isBuffer 78 5 (w.alloc o)
    rw [show (w.alloc o).heap.size = w.heap.size + 1 by simp] at hf
    exact write_none hf (by simp) (by simp) (by omega) (by simp)
  have HB := Lib.hid hB1
  have HR1 := Lib.hid (fun o o' => runeAt_in (hB1 o o') cap 1 (by omega) (by omega) 92 e1)
  have hsl1 : ∀ W, (Instr.slice 32 (.slice (some ⟨b, 0, none⟩) n cap) (some (.int .i64 1)) (some (.int .i64 1)) none).run Tryz.prog W = .ok (.slice (some ⟨b, 1, none⟩) 0 (cap - 1)) W := fun W => run_cut0 W b n cap 1 1 (by omega) (by omega) (by omega)
  have hsl3 : ∀ W, (Instr.slice 32 (.slice (some ⟨b, 0, none⟩) n cap) (some (.int .i64 3)) (some (.int .i64 3)) none).run Tryz.prog W = .ok (.slice (some ⟨b, 3, none⟩) 0 (cap - 3)) W := fun W => run_cut0 W b n cap 3 3 (by omega) (by omega) (by omega)
  clear c3 hb1 hB1
  go_enter Tryz.func32, Tryz.ntmps32
  go_wp2_with fail
  refine wp_loop_rounds 2 ?_
  rw [rounds_succ]
  go_wp2_with fail
  refine (HR1.out _ _).mono ?_
  rintro x w' ⟨rfl, rfl⟩
  go_wp2_with fail
  refine (HW.out _ _).mono ?_
  rintro x W2 ⟨rfl, hI2, hb2⟩
  have hBody2 := (HB.out _ _).later hb2 (by omega)
  have hx : Below (w.alloc (.cells #[.int .i64 0, .int .i64 0, .int .i64 0, .string ⟨#[]⟩] 48)).heap.size (w.alloc (.cells #[.int .i64 0, .int .i64 0, .int .i64 0, .string ⟨#[]⟩] 48)) W2 := ((Below.refl _ _).alloc (Nat.le_refl _) _).trans (hb2.mono (by simp))
  have hz2 : w.heap.size + 1 ≤ W2.heap.size := by have := hb2.size; simp at this; omega
  have HX := Lib.hid hx
  have HR2 := Lib.hid (runeAt_in hBody2 cap 2 (by omega) (by omega) 110 e2)
  have HWR := Lib.hid (Tryz.Buffer_WriteRune_ascii (w.heap.size + 1) (w.heap.size + 1) [] 10 (by omega) (by omega) W2 hI2 hz2 (by simp) (by simp))
  have HB2 := Lib.hid hBody2
  clear hx hb2 hI2 hBody2 HW HR1 HB
  go_wp2_with fail
  refine HR2.out.mono ?_
  rintro x w' ⟨rfl, rfl⟩
  go_wp2_with fail
  refine HWR.out.mono ?_
  rintro x W3 ⟨rfl, hI3, hb3, _⟩
  have hBody3 := HB2.out.later hb3 (by omega)
  have hz3 : w.heap.size + 1 ≤ W3.heap.size := by have := hb3.size; omega
  have HX3 := Lib.hid (HX.out.trans (hb3.mono (by simp)))
  have HR3 := Lib.hid (runeAt_in hBody3 cap 3 (by omega) (by omega) 34 e3)
  have HW3 := Lib.hid (fun c => write_none (W := W3) (b := b) (i := 3) (c := c) hI3 hz3 (by simp [Value.oneCell']) (by omega) (by simp))
  clear hb3 hI3 hBody3 HX HR2 HWR HB2
  go_wp2_with fail
  rw [rounds_succ]
  go_wp2_with fail
  refine HR3.out.mono ?_
  rintro x w' ⟨rfl, rfl⟩
  go_wp2_with fail
  refine (HW3.out _).mono ?_
  rintro x W4 ⟨rfl, hI4, hb4⟩
  have hx4 := HX3.out.trans (hb4.mono (by simp))
  have HV4 := Lib.hid (((Below.refl _ w).alloc (Nat.le_refl _) (.cells #[.int .i64 0, .int .i64 0, .int .i64 0, .string ⟨#[]⟩] 48)).trans (hx4.mono (by simp)))
  have HX4 := Lib.hid (box4 hx4)
  have HS := Lib.hid (Tryz.Buffer_String _ _ [10] W4 hI4)
  clear hb4 hI4 hx4 HX3 HR3 HW3
  go_wp2_with fail
  refine HS.out.mono ?_
  rintro x w' ⟨rfl, k, rfl⟩
  go_wp2_with fail
  refine (makeToken_any _ _ _ _ _).mono ?_
  rintro x w' ⟨rfl, rfl⟩
  obtain ⟨a0, a1, a2, a3, af, alt⟩ := HX4.out.past k (.cells #[.int .i64 18, .int .i64 0, .int .i64 4, .string ⟨#[10]⟩] 48)
  have HV := Lib.hid ((below_drewN HV4.out k).alloc (below_drewN HV4.out k).size (.cells #[.int .i64 18, .int .i64 0, .int .i64 4, .string ⟨#[10]⟩] 48))
  generalize (W4.drewN k).alloc (.cells #[.int .i64 18, .int .i64 0, .int .i64 4, .string ⟨#[10]⟩] 48) = V at *
  go_wp2_with fail
  have s0 : ∀ u : Value, (V.setCell ⟨w.heap.size, 0, none⟩ u).cell? ⟨w.heap.size, 0, none⟩ = some u := fun u => World.cell?_setCell_same _ _ _ a0
  refine bodyPost_ret (v := .tuple #[.agg #[.int .i64 18, .int .i64 0, .int .i64 4, .string ⟨#[10]⟩], .nilIface]) (by simp [results, Tryz.results32, go_sem, s0, a1, a2, a3]) rfl ⟨rfl, ?_⟩
  exact (((HV.out.setCell (Nat.le_refl _) _).setCell (Nat.le_refl _) _).setCell (Nat.le_refl _) _).setCell (Nat.le_refl _) _

set_option maxHeartbeats 3200000 in
set_option maxRecDepth 100000 in
theorem str_esc114 {w : World} {p b n cap : Nat} {l : List UInt8} (hS : Src w p b n cap l) (hn : n ≤ 140737488355328) (h4 : 4 ≤ n) (e1 : ch l 1 = 92) (e2 : ch l 2 = 114) (e3 : ch l 3 = 34) :
    Calls Tryz.prog 32 #[.pointer (some ⟨p, 0, none⟩), .int .i64 0] w fun x w' => Res 18 0 4 ⟨#[13]⟩ false x ∧ Below w.heap.size w w' := by
  obtain ⟨c1, c2, c3⟩ := hS.cells
  have hcap := hS.cap
  have hlt := hS.body.lt
  have hb1 := fun o => (Below.refl _ w).alloc (Nat.le_refl _) o
  have hB1 : ∀ o o', Body ((w.alloc o).alloc o') b n l := fun o o' => (hS.body.below (hb1 o)).below ((Below.refl _ _).alloc (Nat.le_refl _) o')
  have d1 : ∀ o o', ((w.alloc o).alloc o').cell? ⟨p, 0, none⟩ = some (.slice (some ⟨b, 0, none⟩) n cap) := fun o o' => ((hS.below (hb1 o)).below ((Below.refl _ _).alloc (Nat.le_refl _) o')).cell
  have HW : Hid (∀ o c, Calls Tryz.prog 47 #[.pointer (some ⟨w.heap.size + 1, 0, none⟩), .slice (some ⟨b, 1, none⟩) 0 c] ((w.alloc o).alloc (.cells #[.slice none 0 0, .int .i64 0, .int .i8 0] 78)) fun x w' => x = .returned (.tuple #[.int .i64 0, .nilIface]) ∧ Lib.IsBuffer 78 5 (w.heap.size + 1) (w.heap.size + 1) [] w' ∧ Below (w.heap.size + 1) ((w.alloc o).alloc (.cells #[.slice none 0 0, .int .i64 0, .int .i8 0] 78)) w') := fun o c => by
    have hf := Lib.fresh_isBuffer 78 5 (w.alloc o)
    rw [show (w.alloc o).heap.size = w.heap.size + 1 by simp] at hf
    exact write_none hf (by simp) (by simp) (by omega) (by simp)
  have HB := Lib.hid hB1
  have HR1 := Lib.hid (fun o o' => runeAt_in (hB1 o o') cap 1 (by omega) (by omega) 92 e1)
  have hsl1 : ∀ W, (Instr.slice 32 (.slice (some ⟨b, 0, none⟩) n cap) (some (.int .i64 1)) (some (.int .i64 1)) none).run Tryz.prog W = .ok (.slice (some ⟨b, 1, none⟩) 0 (cap - 1)) W := fun W => run_cut0 W b n cap 1 1 (by omega) (by omega) (by omega)
  have hsl3 : ∀ W, (Instr.slice 32 (.slice (some ⟨b, 0, none⟩) n cap) (some (.int .i64 3)) (some (.int .i64 3)) none).run Tryz.prog W = .ok (.slice (some ⟨b, 3, none⟩) 0 (cap - 3)) W := fun W => run_cut0 W b n cap 3 3 (by omega) (by omega) (by omega)
  clear c3 hb1 hB1
  go_enter Tryz.func32, Tryz.ntmps32
  go_wp2_with fail
  refine wp_loop_rounds 2 ?_
  rw [rounds_succ]
  go_wp2_with fail
  refine (HR1.out _ _).mono ?_
  rintro x w' ⟨rfl, rfl⟩
  go_wp2_with fail
  refine (HW.out _ _).mono ?_
  rintro x W2 ⟨rfl, hI2, hb2⟩
  have hBody2 := (HB.out _ _).later hb2 (by omega)
  have hx : Below (w.alloc (.cells #[.int .i64 0, .int .i64 0, .int .i64 0, .string ⟨#[]⟩] 48)).heap.size (w.alloc (.cells #[.int .i64 0, .int .i64 0, .int .i64 0, .string ⟨#[]⟩] 48)) W2 := ((Below.refl _ _).alloc (Nat.le_refl _) _).trans (hb2.mono (by simp))
  have hz2 : w.heap.size + 1 ≤ W2.heap.size := by have := hb2.size; simp at this; omega
  have HX := Lib.hid hx
  have HR2 := Lib.hid (runeAt_in hBody2 cap 2 (by omega) (by omega) 114 e2)
  have HWR := Lib.hid (Tryz.Buffer_WriteRune_ascii (w.heap.size + 1) (w.heap.size + 1) [] 13 (by omega) (by omega) W2 hI2 hz2 (by simp) (by simp))
  have HB2 := Lib.hid hBody2
  clear hx hb2 hI2 hBody2 HW HR1 HB
  go_wp2_with fail
  refine HR2.out.mono ?_
  rintro x w' ⟨rfl, rfl⟩
  go_wp2_with fail
  refine HWR.out.mono ?_
  rintro x W3 ⟨rfl, hI3, hb3, _⟩
  have hBody3 := HB2.out.later hb3 (by omega)
  have hz3 : w.heap.size + 1 ≤ W3.heap.size := by have := hb3.size; omega
  have HX3 := Lib.hid (HX.out.trans (hb3.mono (by simp)))
  have HR3 := Lib.hid (runeAt_in hBody3 cap 3 (by omega) (by omega) 34 e3)
  have HW3 := Lib.hid (fun c => write_none (W := W3) (b := b) (i := 3) (c := c) hI3 hz3 (by simp [Value.oneCell']) (by omega) (by simp))
  clear hb3 hI3 hBody3 HX HR2 HWR HB2
  go_wp2_with fail
  rw [rounds_succ]
  go_wp2_with fail
  refine HR3.out.mono ?_
  rintro x w' ⟨rfl, rfl⟩
  go_wp2_with fail
  refine (HW3.out _).mono ?_
  rintro x W4 ⟨rfl, hI4, hb4⟩
  have hx4 := HX3.out.trans (hb4.mono (by simp))
  have HV4 := Lib.hid (((Below.refl _ w).alloc (Nat.le_refl _) (.cells #[.int .i64 0, .int .i64 0, .int .i64 0, .string ⟨#[]⟩] 48)).trans (hx4.mono (by simp)))
  have HX4 := Lib.hid (box4 hx4)
  have HS := Lib.hid (Tryz.Buffer_String _ _ [13] W4 hI4)
  clear hb4 hI4 hx4 HX3 HR3 HW3
  go_wp2_with fail
  refine HS.out.mono ?_
  rintro x w' ⟨rfl, k, rfl⟩
  go_wp2_with fail
  refine (makeToken_any _ _ _ _ _).mono ?_
  rintro x w' ⟨rfl, rfl⟩
  obtain ⟨a0, a1, a2, a3, af, alt⟩ := HX4.out.past k (.cells #[.int .i64 18, .int .i64 0, .int .i64 4, .string ⟨#[13]⟩] 48)
  have HV := Lib.hid ((below_drewN HV4.out k).alloc (below_drewN HV4.out k).size (.cells #[.int .i64 18, .int .i64 0, .int .i64 4, .string ⟨#[13]⟩] 48))
  generalize (W4.drewN k).alloc (.cells #[.int .i64 18, .int .i64 0, .int .i64 4, .string ⟨#[13]⟩] 48) = V at *
  go_wp2_with fail
  have s0 : ∀ u : Value, (V.setCell ⟨w.heap.size, 0, none⟩ u).cell? ⟨w.heap.size, 0, none⟩ = some u := fun u => World.cell?_setCell_same _ _ _ a0
  refine bodyPost_ret (v := .tuple #[.agg #[.int .i64 18, .int .i64 0, .int .i64 4, .string ⟨#[13]⟩], .nilIface]) (by simp [results, Tryz.results32, go_sem, s0, a1, a2, a3]) rfl ⟨rfl, ?_⟩
  exact (((HV.out.setCell (Nat.le_refl _) _).setCell (Nat.le_refl _) _).setCell (Nat.le_refl _) _).setCell (Nat.le_refl _) _

set_option maxHeartbeats 3200000 in
set_option maxRecDepth 100000 in
theorem str_esc116 {w : World} {p b n cap : Nat} {l : List UInt8} (hS : Src w p b n cap l) (hn : n ≤ 140737488355328) (h4 : 4 ≤ n) (e1 : ch l 1 = 92) (e2 : ch l 2 = 116) (e3 : ch l 3 = 34) :
    Calls Tryz.prog 32 #[.pointer (some ⟨p, 0, none⟩), .int .i64 0] w fun x w' => Res 18 0 4 ⟨#[9]⟩ false x ∧ Below w.heap.size w w' := by
  obtain ⟨c1, c2, c3⟩ := hS.cells
  have hcap := hS.cap
  have hlt := hS.body.lt
  have hb1 := fun o => (Below.refl _ w).alloc (Nat.le_refl _) o
  have hB1 : ∀ o o', Body ((w.alloc o).alloc o') b n l := fun o o' => (hS.body.below (hb1 o)).below ((Below.refl _ _).alloc (Nat.le_refl _) o')
  have d1 : ∀ o o', ((w.alloc o).alloc o').cell? ⟨p, 0, none⟩ = some (.slice (some ⟨b, 0, none⟩) n cap) := fun o o' => ((hS.below (hb1 o)).below ((Below.refl _ _).alloc (Nat.le_refl _) o')).cell
  have HW : Hid (∀ o c, Calls Tryz.prog 47 #[.pointer (some ⟨w.heap.size + 1, 0, none⟩), .slice (some ⟨b, 1, none⟩) 0 c] ((w.alloc o).alloc (.cells #[.slice none 0 0, .int .i64 0, .int .i8 0] 78)) fun x w' => x = .returned (.tuple #[.int .i64 0, .nilIface]) ∧ Lib.IsBuffer 78 5 (w.heap.size + 1) (w.heap.size + 1) [] w' ∧ Below (w.heap.size + 1) ((w.alloc o).alloc (.cells #[.slice none 0 0, .int .i64 0, .int .i8 0] 78)) w') := fun o c => by
    have hf := Lib.fresh_isBuffer 78 5 (w.alloc o)
    rw [show (w.alloc o).heap.size = w.heap.size + 1 by simp] at hf
    exact write_none hf (by simp) (by simp) (by omega) (by simp)
  have HB := Lib.hid hB1
  have HR1 := Lib.hid (fun o o' => runeAt_in (hB1 o o') cap 1 (by omega) (by omega) 92 e1)
  have hsl1 : ∀ W, (Instr.slice 32 (.slice (some ⟨b, 0, none⟩) n cap) (some (.int .i64 1)) (some (.int .i64 1)) none).run Tryz.prog W = .ok (.slice (some ⟨b, 1, none⟩) 0 (cap - 1)) W := fun W => run_cut0 W b n cap 1 1 (by omega) (by omega) (by omega)
  have hsl3 : ∀ W, (Instr.slice 32 (.slice (some ⟨b, 0, none⟩) n cap) (some (.int .i64 3)) (some (.int .i64 3)) none).run Tryz.prog W = .ok (.slice (some ⟨b, 3, none⟩) 0 (cap - 3)) W := fun W => run_cut0 W b n cap 3 3 (by omega) (by omega) (by omega)
  clear c3 hb1 hB1
  go_enter Tryz.func32, Tryz.ntmps32
  go_wp2_with fail
  refine wp_loop_rounds 2 ?_
  rw [rounds_succ]
  go_wp2_with fail
  refine (HR1.out _ _).mono ?_
  rintro x w' ⟨rfl, rfl⟩
  go_wp2_with fail
  refine (HW.out _ _).mono ?_
  rintro x W2 ⟨rfl, hI2, hb2⟩
  have hBody2 := (HB.out _ _).later hb2 (by omega)
  have hx : Below (w.alloc (.cells #[.int .i64 0, .int .i64 0, .int .i64 0, .string ⟨#[]⟩] 48)).heap.size (w.alloc (.cells #[.int .i64 0, .int .i64 0, .int .i64 0, .string ⟨#[]⟩] 48)) W2 := ((Below.refl _ _).alloc (Nat.le_refl _) _).trans (hb2.mono (by simp))
  have hz2 : w.heap.size + 1 ≤ W2.heap.size := by have := hb2.size; simp at this; omega
  have HX := Lib.hid hx
  have HR2 := Lib.hid (runeAt_in hBody2 cap 2 (by omega) (by omega) 116 e2)
  have HWR := Lib.hid (Tryz.Buffer_WriteRune_ascii (w.heap.size + 1) (w.heap.size + 1) [] 9 (by omega) (by omega) W2 hI2 hz2 (by simp) (by simp))
  have HB2 := Lib.hid hBody2
  clear hx hb2 hI2 hBody2 HW HR1 HB
  go_wp2_with fail
  refine HR2.out.mono ?_
  rintro x w' ⟨rfl, rfl⟩
  go_wp2_with fail
  refine HWR.out.mono ?_
  rintro x W3 ⟨rfl, hI3, hb3, _⟩
  have hBody3 := HB2.out.later hb3 (by omega)
  have hz3 : w.heap.size + 1 ≤ W3.heap.size := by have := hb3.size; omega
  have HX3 := Lib.hid (HX.out.trans (hb3.mono (by simp)))
  have HR3 := Lib.hid (runeAt_in hBody3 cap 3 (by omega) (by omega) 34 e3)
  have HW3 := Lib.hid (fun c => write_none (W := W3) (b := b) (i := 3) (c := c) hI3 hz3 (by simp [Value.oneCell']) (by omega) (by simp))
  clear hb3 hI3 hBody3 HX HR2 HWR HB2
  go_wp2_with fail
  rw [rounds_succ]
  go_wp2_with fail
  refine HR3.out.mono ?_
  rintro x w' ⟨rfl, rfl⟩
  go_wp2_with fail
  refine (HW3.out _).mono ?_
  rintro x W4 ⟨rfl, hI4, hb4⟩
  have hx4 := HX3.out.trans (hb4.mono (by simp))
  have HV4 := Lib.hid (((Below.refl _ w).alloc (Nat.le_refl _) (.cells #[.int .i64 0, .int .i64 0, .int .i64 0, .string ⟨#[]⟩] 48)).trans (hx4.mono (by simp)))
  have HX4 := Lib.hid (box4 hx4)
  have HS := Lib.hid (Tryz.Buffer_String _ _ [9] W4 hI4)
  clear hb4 hI4 hx4 HX3 HR3 HW3
  go_wp2_with fail
  refine HS.out.mono ?_
  rintro x w' ⟨rfl, k, rfl⟩
  go_wp2_with fail
  refine (makeToken_any _ _ _ _ _).mono ?_
  rintro x w' ⟨rfl, rfl⟩
  obtain ⟨a0, a1, a2, a3, af, alt⟩ := HX4.out.past k (.cells #[.int .i64 18, .int .i64 0, .int .i64 4, .string ⟨#[9]⟩] 48)
  have HV := Lib.hid ((below_drewN HV4.out k).alloc (below_drewN HV4.out k).size (.cells #[.int .i64 18, .int .i64 0, .int .i64 4, .string ⟨#[9]⟩] 48))
  generalize (W4.drewN k).alloc (.cells #[.int .i64 18, .int .i64 0, .int .i64 4, .string ⟨#[9]⟩] 48) = V at *
  go_wp2_with fail
  have s0 : ∀ u : Value, (V.setCell ⟨w.heap.size, 0, none⟩ u).cell? ⟨w.heap.size, 0, none⟩ = some u := fun u => World.cell?_setCell_same _ _ _ a0
  refine bodyPost_ret (v := .tuple #[.agg #[.int .i64 18, .int .i64 0, .int .i64 4, .string ⟨#[9]⟩], .nilIface]) (by simp [results, Tryz.results32, go_sem, s0, a1, a2, a3]) rfl ⟨rfl, ?_⟩
  exact (((HV.out.setCell (Nat.le_refl _) _).setCell (Nat.le_refl _) _).setCell (Nat.le_refl _) _).setCell (Nat.le_refl _) _

set_option maxHeartbeats 3200000 in
set_option maxRecDepth 100000 in
theorem str_esc34 {w : World} {p b n cap : Nat} {l : List UInt8} (hS : Src w p b n cap l) (hn : n ≤ 140737488355328) (h4 : 4 ≤ n) (e1 : ch l 1 = 92) (e2 : ch l 2 = 34) (e3 : ch l 3 = 34) :
    Calls Tryz.prog 32 #[.pointer (some ⟨p, 0, none⟩), .int .i64 0] w fun x w' => Res 18 0 4 ⟨#[34]⟩ false x ∧ Below w.heap.size w w' := by
  obtain ⟨c1, c2, c3⟩ := hS.cells
  have hcap := hS.cap
  have hlt := hS.body.lt
  have hb1 := fun o => (Below.refl _ w).alloc (Nat.le_refl _) o
  have hB1 : ∀ o o', Body ((w.alloc o).alloc o') b n l := fun o o' => (hS.body.below (hb1 o)).below ((Below.refl _ _).alloc (Nat.le_refl _) o')
  have d1 : ∀ o o', ((w.alloc o).alloc o').cell? ⟨p, 0, none⟩ = some (.slice (some ⟨b, 0, none⟩) n cap) := fun o o' => ((hS.below (hb1 o)).below ((Below.refl _ _).alloc (Nat.le_refl _) o')).cell
  have HW : Hid (∀ o c, Calls Tryz.prog 47 #[.pointer (some ⟨w.heap.size + 1, 0, none⟩), .slice (some ⟨b, 1, none⟩) 0 c] ((w.alloc o).alloc (.cells #[.slice none 0 0, .int .i64 0, .int .i8 0] 78)) fun x w' => x = .returned (.tuple #[.int .i64 0, .nilIface]) ∧ Lib.IsBuffer 78 5 (w.heap.size + 1) (w.heap.size + 1) [] w' ∧ Below (w.heap.size + 1) ((w.alloc o).alloc (.cells #[.slice none 0 0, .int .i64 0, .int .i8 0] 78)) w') := fun o c => by
    have hf := Lib.fresh_isBuffer 78 5 (w.alloc o)
    rw [show (w.alloc o).heap.size = w.heap.size + 1 by simp] at hf
    exact write_none hf (by simp) (by simp) (by omega) (by simp)
  have HB := Lib.hid hB1
  have HR1 := Lib.hid (fun o o' => runeAt_in (hB1 o o') cap 1 (by omega) (by omega) 92 e1)
  have hsl1 : ∀ W, (Instr.slice 32 (.slice (some ⟨b, 0, none⟩) n cap) (some (.int .i64 1)) (some (.int .i64 1)) none).run Tryz.prog W = .ok (.slice (some ⟨b, 1, none⟩) 0 (cap - 1)) W := fun W => run_cut0 W b n cap 1 1 (by omega) (by omega) (by omega)
  have hsl3 : ∀ W, (Instr.slice 32 (.slice (some ⟨b, 0, none⟩) n cap) (some (.int .i64 3)) (some (.int .i64 3)) none).run Tryz.prog W = .ok (.slice (some ⟨b, 3, none⟩) 0 (cap - 3)) W := fun W => run_cut0 W b n cap 3 3 (by omega) (by omega) (by omega)
  clear c3 hb1 hB1
  go_enter Tryz.func32, Tryz.ntmps32
  go_wp2_with fail
  refine wp_loop_rounds 2 ?_
  rw [rounds_succ]
  go_wp2_with fail
  refine (HR1.out _ _).mono ?_
  rintro x w' ⟨rfl, rfl⟩
  go_wp2_with fail
  refine (HW.out _ _).mono ?_
  rintro x W2 ⟨rfl, hI2, hb2⟩
  have hBody2 := (HB.out _ _).later hb2 (by omega)
  have hx : Below (w.alloc (.cells #[.int .i64 0, .int .i64 0, .int .i64 0, .string ⟨#[]⟩] 48)).heap.size (w.alloc (.cells #[.int .i64 0, .int .i64 0, .int .i64 0, .string ⟨#[]⟩] 48)) W2 := ((Below.refl _ _).alloc (Nat.le_refl _) _).trans (hb2.mono (by simp))
  have hz2 : w.heap.size + 1 ≤ W2.heap.size := by have := hb2.size; simp at this; omega
  have HX := Lib.hid hx
  have HR2 := Lib.hid (runeAt_in hBody2 cap 2 (by omega) (by omega) 34 e2)
  have HWR := Lib.hid (Tryz.Buffer_WriteRune_ascii (w.heap.size + 1) (w.heap.size + 1) [] 34 (by omega) (by omega) W2 hI2 hz2 (by simp) (by simp))
  have HB2 := Lib.hid hBody2
  clear hx hb2 hI2 hBody2 HW HR1 HB
  go_wp2_with fail
  refine HR2.out.mono ?_
  rintro x w' ⟨rfl, rfl⟩
  go_wp2_with fail
  refine HWR.out.mono ?_
  rintro x W3 ⟨rfl, hI3, hb3, _⟩
  have hBody3 := HB2.out.later hb3 (by omega)
  have hz3 : w.heap.size + 1 ≤ W3.heap.size := by have := hb3.size; omega
  have HX3 := Lib.hid (HX.out.trans (hb3.mono (by simp)))
  have HR3 := Lib.hid (runeAt_in hBody3 cap 3 (by omega) (by omega) 34 e3)
  have HW3 := Lib.hid (fun c => write_none (W := W3) (b := b) (i := 3) (c := c) hI3 hz3 (by simp [Value.oneCell']) (by omega) (by simp))
  clear hb3 hI3 hBody3 HX HR2 HWR HB2
  go_wp2_with fail
  rw [rounds_succ]
  go_wp2_with fail
  refine HR3.out.mono ?_
  rintro x w' ⟨rfl, rfl⟩
  go_wp2_with fail
  refine (HW3.out _).mono ?_
  rintro x W4 ⟨rfl, hI4, hb4⟩
  have hx4 := HX3.out.trans (hb4.mono (by simp))
  have HV4 := Lib.hid (((Below.refl _ w).alloc (Nat.le_refl _) (.cells #[.int .i64 0, .int .i64 0, .int .i64 0, .string ⟨#[]⟩] 48)).trans (hx4.mono (by simp)))
  have HX4 := Lib.hid (box4 hx4)
  have HS := Lib.hid (Tryz.Buffer_String _ _ [34] W4 hI4)
  clear hb4 hI4 hx4 HX3 HR3 HW3
  go_wp2_with fail
  refine HS.out.mono ?_
  rintro x w' ⟨rfl, k, rfl⟩
  go_wp2_with fail
  refine (makeToken_any _ _ _ _ _).mono ?_
  rintro x w' ⟨rfl, rfl⟩
  obtain ⟨a0, a1, a2, a3, af, alt⟩ := HX4.out.past k (.cells #[.int .i64 18, .int .i64 0, .int .i64 4, .string ⟨#[34]⟩] 48)
  have HV := Lib.hid ((below_drewN HV4.out k).alloc (below_drewN HV4.out k).size (.cells #[.int .i64 18, .int .i64 0, .int .i64 4, .string ⟨#[34]⟩] 48))
  generalize (W4.drewN k).alloc (.cells #[.int .i64 18, .int .i64 0, .int .i64 4, .string ⟨#[34]⟩] 48) = V at *
  go_wp2_with fail
  have s0 : ∀ u : Value, (V.setCell ⟨w.heap.size, 0, none⟩ u).cell? ⟨w.heap.size, 0, none⟩ = some u := fun u => World.cell?_setCell_same _ _ _ a0
  refine bodyPost_ret (v := .tuple #[.agg #[.int .i64 18, .int .i64 0, .int .i64 4, .string ⟨#[34]⟩], .nilIface]) (by simp [results, Tryz.results32, go_sem, s0, a1, a2, a3]) rfl ⟨rfl, ?_⟩
  exact (((HV.out.setCell (Nat.le_refl _) _).setCell (Nat.le_refl _) _).setCell (Nat.le_refl _) _).setCell (Nat.le_refl _) _

set_option maxHeartbeats 3200000 in
set_option maxRecDepth 100000 in
theorem str_esc92 {w : World} {p b n cap : Nat} {l : List UInt8} (hS : Src w p b n cap l) (hn : n ≤ 140737488355328) (h4 : 4 ≤ n) (e1 : ch l 1 = 92) (e2 : ch l 2 = 92) (e3 : ch l 3 = 34) :
    Calls Tryz.prog 32 #[.pointer (some ⟨p, 0, none⟩), .int .i64 0] w fun x w' => Res 18 0 4 ⟨#[92]⟩ false x ∧ Below w.heap.size w w' := by
  obtain ⟨c1, c2, c3⟩ := hS.cells
  have hcap := hS.cap
  have hlt := hS.body.lt
  have hb1 := fun o => (Below.refl _ w).alloc (Nat.le_refl _) o
  have hB1 : ∀ o o', Body ((w.alloc o).alloc o') b n l := fun o o' => (hS.body.below (hb1 o)).below ((Below.refl _ _).alloc (Nat.le_refl _) o')
  have d1 : ∀ o o', ((w.alloc o).alloc o').cell? ⟨p, 0, none⟩ = some (.slice (some ⟨b, 0, none⟩) n cap) := fun o o' => ((hS.below (hb1 o)).below ((Below.refl _ _).alloc (Nat.le_refl _) o')).cell
  have HW : Hid (∀ o c, Calls Tryz.prog 47 #[.pointer (some ⟨w.heap.size + 1, 0, none⟩), .slice (some ⟨b, 1, none⟩) 0 c] ((w.alloc o).alloc (.cells #[.slice none 0 0, .int .i64 0, .int .i8 0] 78)) fun x w' => x = .returned (.tuple #[.int .i64 0, .nilIface]) ∧ Lib.IsBuffer 78 5 (w.heap.size + 1) (w.heap.size + 1) [] w' ∧ Below (w.heap.size + 1) ((w.alloc o).alloc (.cells #[.slice none 0 0, .int .i64 0, .int .i8 0] 78)) w') := fun o c => by
    have hf := Lib.fresh_isBuffer 78 5 (w.alloc o)
    rw [show (w.alloc o).heap.size = w.heap.size + 1 by simp] at hf
    exact write_none hf (by simp) (by simp) (by omega) (by simp)
  have HB := Lib.hid hB1
  have HR1 := Lib.hid (fun o o' => runeAt_in (hB1 o o') cap 1 (by omega) (by omega) 92 e1)
  have hsl1 : ∀ W, (Instr.slice 32 (.slice (some ⟨b, 0, none⟩) n cap) (some (.int .i64 1)) (some (.int .i64 1)) none).run Tryz.prog W = .ok (.slice (some ⟨b, 1, none⟩) 0 (cap - 1)) W := fun W => run_cut0 W b n cap 1 1 (by omega) (by omega) (by omega)
  have hsl3 : ∀ W, (Instr.slice 32 (.slice (some ⟨b, 0, none⟩) n cap) (some (.int .i64 3)) (some (.int .i64 3)) none).run Tryz.prog W = .ok (.slice (some ⟨b, 3, none⟩) 0 (cap - 3)) W := fun W => run_cut0 W b n cap 3 3 (by omega) (by omega) (by omega)
  clear c3 hb1 hB1
  go_enter Tryz.func32, Tryz.ntmps32
  go_wp2_with fail
  refine wp_loop_rounds 2 ?_
  rw [rounds_succ]
  go_wp2_with fail
  refine (HR1.out _ _).mono ?_
  rintro x w' ⟨rfl, rfl⟩
  go_wp2_with fail
  refine (HW.out _ _).mono ?_
  rintro x W2 ⟨rfl, hI2, hb2⟩
  have hBody2 := (HB.out _ _).later hb2 (by omega)
  have hx : Below (w.alloc (.cells #[.int .i64 0, .int .i64 0, .int .i64 0, .string ⟨#[]⟩] 48)).heap.size (w.alloc (.cells #[.int .i64 0, .int .i64 0, .int .i64 0, .string ⟨#[]⟩] 48)) W2 := ((Below.refl _ _).alloc (Nat.le_refl _) _).trans (hb2.mono (by simp))
  have hz2 : w.heap.size + 1 ≤ W2.heap.size := by have := hb2.size; simp at this; omega
  have HX := Lib.hid hx
  have HR2 := Lib.hid (runeAt_in hBody2 cap 2 (by omega) (by omega) 92 e2)
  have HWR := Lib.hid (Tryz.Buffer_WriteRune_ascii (w.heap.size + 1) (w.heap.size + 1) [] 92 (by omega) (by omega) W2 hI2 hz2 (by simp) (by simp))
  have HB2 := Lib.hid hBody2
  clear hx hb2 hI2 hBody2 HW HR1 HB
  go_wp2_with fail
  refine HR2.out.mono ?_
  rintro x w' ⟨rfl, rfl⟩
  go_wp2_with fail
  refine HWR.out.mono ?_
  rintro x W3 ⟨rfl, hI3, hb3, _⟩
  have hBody3 := HB2.out.later hb3 (by omega)
  have hz3 : w.heap.size + 1 ≤ W3.heap.size := by have := hb3.size; omega
  have HX3 := Lib.hid (HX.out.trans (hb3.mono (by simp)))
  have HR3 := Lib.hid (runeAt_in hBody3 cap 3 (by omega) (by omega) 34 e3)
  have HW3 := Lib.hid (fun c => write_none (W := W3) (b := b) (i := 3) (c := c) hI3 hz3 (by simp [Value.oneCell']) (by omega) (by simp))
  clear hb3 hI3 hBody3 HX HR2 HWR HB2
  go_wp2_with fail
  rw [rounds_succ]
  go_wp2_with fail
  refine HR3.out.mono ?_
  rintro x w' ⟨rfl, rfl⟩
  go_wp2_with fail
  refine (HW3.out _).mono ?_
  rintro x W4 ⟨rfl, hI4, hb4⟩
  have hx4 := HX3.out.trans (hb4.mono (by simp))
  have HV4 := Lib.hid (((Below.refl _ w).alloc (Nat.le_refl _) (.cells #[.int .i64 0, .int .i64 0, .int .i64 0, .string ⟨#[]⟩] 48)).trans (hx4.mono (by simp)))
  have HX4 := Lib.hid (box4 hx4)
  have HS := Lib.hid (Tryz.Buffer_String _ _ [92] W4 hI4)
  clear hb4 hI4 hx4 HX3 HR3 HW3
  go_wp2_with fail
  refine HS.out.mono ?_
  rintro x w' ⟨rfl, k, rfl⟩
  go_wp2_with fail
  refine (makeToken_any _ _ _ _ _).mono ?_
  rintro x w' ⟨rfl, rfl⟩
  obtain ⟨a0, a1, a2, a3, af, alt⟩ := HX4.out.past k (.cells #[.int .i64 18, .int .i64 0, .int .i64 4, .string ⟨#[92]⟩] 48)
  have HV := Lib.hid ((below_drewN HV4.out k).alloc (below_drewN HV4.out k).size (.cells #[.int .i64 18, .int .i64 0, .int .i64 4, .string ⟨#[92]⟩] 48))
  generalize (W4.drewN k).alloc (.cells #[.int .i64 18, .int .i64 0, .int .i64 4, .string ⟨#[92]⟩] 48) = V at *
  go_wp2_with fail
  have s0 : ∀ u : Value, (V.setCell ⟨w.heap.size, 0, none⟩ u).cell? ⟨w.heap.size, 0, none⟩ = some u := fun u => World.cell?_setCell_same _ _ _ a0
  refine bodyPost_ret (v := .tuple #[.agg #[.int .i64 18, .int .i64 0, .int .i64 4, .string ⟨#[92]⟩], .nilIface]) (by simp [results, Tryz.results32, go_sem, s0, a1, a2, a3]) rfl ⟨rfl, ?_⟩
  exact (((HV.out.setCell (Nat.le_refl _) _).setCell (Nat.le_refl _) _).setCell (Nat.le_refl _) _).setCell (Nat.le_refl _) _

set_option maxHeartbeats 3200000 in
set_option maxRecDepth 100000 in
theorem str_esc47 {w : World} {p b n cap : Nat} {l : List UInt8} (hS : Src w p b n cap l) (hn : n ≤ 140737488355328) (h4 : 4 ≤ n) (e1 : ch l 1 = 92) (e2 : ch l 2 = 47) (e3 : ch l 3 = 34) :
    Calls Tryz.prog 32 #[.pointer (some ⟨p, 0, none⟩), .int .i64 0] w fun x w' => Res 18 0 4 ⟨#[47]⟩ false x ∧ Below w.heap.size w w' := by
  obtain ⟨c1, c2, c3⟩ := hS.cells
  have hcap := hS.cap
  have hlt := hS.body.lt
  have hb1 := fun o => (Below.refl _ w).alloc (Nat.le_refl _) o
  have hB1 : ∀ o o', Body ((w.alloc o).alloc o') b n l := fun o o' => (hS.body.below (hb1 o)).below ((Below.refl _ _).alloc (Nat.le_refl _) o')
  have d1 : ∀ o o', ((w.alloc o).alloc o').cell? ⟨p, 0, none⟩ = some (.slice (some ⟨b, 0, none⟩) n cap) := fun o o' => ((hS.below (hb1 o)).below ((Below.refl _ _).alloc (Nat.le_refl _) o')).cell
  have HW : Hid (∀ o c, Calls Tryz.prog 47 #[.pointer (some ⟨w.heap.size + 1, 0, none⟩), .slice (some ⟨b, 1, none⟩) 0 c] ((w.alloc o).alloc (.cells #[.slice none 0 0, .int .i64 0, .int .i8 0] 78)) fun x w' => x = .returned (.tuple #[.int .i64 0, .nilIface]) ∧ Lib.IsBuffer 78 5 (w.heap.size + 1) (w.heap.size + 1) [] w' ∧ Below (w.heap.size + 1) ((w.alloc o).alloc (.cells #[.slice none 0 0, .int .i64 0, .int .i8 0] 78)) w') := fun o c => by
    have hf := Lib.fresh_isBuffer 78 5 (w.alloc o)
    rw [show (w.alloc o).heap.size = w.heap.size + 1 by simp] at hf
    exact write_none hf (by simp) (by simp) (by omega) (by simp)
  have HB := Lib.hid hB1
  have HR1 := Lib.hid (fun o o' => runeAt_in (hB1 o o') cap 1 (by omega) (by omega) 92 e1)
  have hsl1 : ∀ W, (Instr.slice 32 (.slice (some ⟨b, 0, none⟩) n cap) (some (.int .i64 1)) (some (.int .i64 1)) none).run Tryz.prog W = .ok (.slice (some ⟨b, 1, none⟩) 0 (cap - 1)) W := fun W => run_cut0 W b n cap 1 1 (by omega) (by omega) (by omega)
  have hsl3 : ∀ W, (Instr.slice 32 (.slice (some ⟨b, 0, none⟩) n cap) (some (.int .i64 3)) (some (.int .i64 3)) none).run Tryz.prog W = .ok (.slice (some ⟨b, 3, none⟩) 0 (cap - 3)) W := fun W => run_cut0 W b n cap 3 3 (by omega) (by omega) (by omega)
  clear c3 hb1 hB1
  go_enter Tryz.func32, Tryz.ntmps32
  go_wp2_with fail
  refine wp_loop_rounds 2 ?_
  rw [rounds_succ]
  go_wp2_with fail
  refine (HR1.out _ _).mono ?_
  rintro x w' ⟨rfl, rfl⟩
  go_wp2_with fail
  refine (HW.out _ _).mono ?_
  rintro x W2 ⟨rfl, hI2, hb2⟩
  have hBody2 := (HB.out _ _).later hb2 (by omega)
  have hx : Below (w.alloc (.cells #[.int .i64 0, .int .i64 0, .int .i64 0, .string ⟨#[]⟩] 48)).heap.size (w.alloc (.cells #[.int .i64 0, .int .i64 0, .int .i64 0, .string ⟨#[]⟩] 48)) W2 := ((Below.refl _ _).alloc (Nat.le_refl _) _).trans (hb2.mono (by simp))
  have hz2 : w.heap.size + 1 ≤ W2.heap.size := by have := hb2.size; simp at this; omega
  have HX := Lib.hid hx
  have HR2 := Lib.hid (runeAt_in hBody2 cap 2 (by omega) (by omega) 47 e2)
  have HWR := Lib.hid (Tryz.Buffer_WriteRune_ascii (w.heap.size + 1) (w.heap.size + 1) [] 47 (by omega) (by omega) W2 hI2 hz2 (by simp) (by simp))
  have HB2 := Lib.hid hBody2
  clear hx hb2 hI2 hBody2 HW HR1 HB
  go_wp2_with fail
  refine HR2.out.mono ?_
  rintro x w' ⟨rfl, rfl⟩
  go_wp2_with fail
  refine HWR.out.mono ?_
  rintro x W3 ⟨rfl, hI3, hb3, _⟩
  have hBody3 := HB2.out.later hb3 (by omega)
  have hz3 : w.heap.size + 1 ≤ W3.heap.size := by have := hb3.size; omega
  have HX3 := Lib.hid (HX.out.trans (hb3.mono (by simp)))
  have HR3 := Lib.hid (runeAt_in hBody3 cap 3 (by omega) (by omega) 34 e3)
  have HW3 := Lib.hid (fun c => write_none (W := W3) (b := b) (i := 3) (c := c) hI3 hz3 (by simp [Value.oneCell']) (by omega) (by simp))
  clear hb3 hI3 hBody3 HX HR2 HWR HB2
  go_wp2_with fail
  rw [rounds_succ]
  go_wp2_with fail
  refine HR3.out.mono ?_
  rintro x w' ⟨rfl, rfl⟩
  go_wp2_with fail
  refine (HW3.out _).mono ?_
  rintro x W4 ⟨rfl, hI4, hb4⟩
  have hx4 := HX3.out.trans (hb4.mono (by simp))
  have HV4 := Lib.hid (((Below.refl _ w).alloc (Nat.le_refl _) (.cells #[.int .i64 0, .int .i64 0, .int .i64 0, .string ⟨#[]⟩] 48)).trans (hx4.mono (by simp)))
  have HX4 := Lib.hid (box4 hx4)
  have HS := Lib.hid (Tryz.Buffer_String _ _ [47] W4 hI4)
  clear hb4 hI4 hx4 HX3 HR3 HW3
  go_wp2_with fail
  refine HS.out.mono ?_
  rintro x w' ⟨rfl, k, rfl⟩
  go_wp2_with fail
  refine (makeToken_any _ _ _ _ _).mono ?_
  rintro x w' ⟨rfl, rfl⟩
  obtain ⟨a0, a1, a2, a3, af, alt⟩ := HX4.out.past k (.cells #[.int .i64 18, .int .i64 0, .int .i64 4, .string ⟨#[47]⟩] 48)
  have HV := Lib.hid ((below_drewN HV4.out k).alloc (below_drewN HV4.out k).size (.cells #[.int .i64 18, .int .i64 0, .int .i64 4, .string ⟨#[47]⟩] 48))
  generalize (W4.drewN k).alloc (.cells #[.int .i64 18, .int .i64 0, .int .i64 4, .string ⟨#[47]⟩] 48) = V at *
  go_wp2_with fail
  have s0 : ∀ u : Value, (V.setCell ⟨w.heap.size, 0, none⟩ u).cell? ⟨w.heap.size, 0, none⟩ = some u := fun u => World.cell?_setCell_same _ _ _ a0
  refine bodyPost_ret (v := .tuple #[.agg #[.int .i64 18, .int .i64 0, .int .i64 4, .string ⟨#[47]⟩], .nilIface]) (by simp [results, Tryz.results32, go_sem, s0, a1, a2, a3]) rfl ⟨rfl, ?_⟩
  exact (((HV.out.setCell (Nat.le_refl _) _).setCell (Nat.le_refl _) _).setCell (Nat.le_refl _) _).setCell (Nat.le_refl _) _

end Go.Proofs.YthmdgegaejanaaaGreatDoor
