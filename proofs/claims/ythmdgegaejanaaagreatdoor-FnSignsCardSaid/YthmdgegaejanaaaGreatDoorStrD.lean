/- STRINGS (readString): a quotation mark alone. -/
import Derived.Test.YthmdgegaejanaaaGreatDoorStrC
namespace Go.Proofs.YthmdgegaejanaaaGreatDoor
open Go.RowKit

set_option maxHeartbeats 3200000 in
set_option maxRecDepth 100000 in
theorem str_unterm {w : World} {p b n cap : Nat} {l : List UInt8} (hS : Src w p b n cap l) (he : NoEnds l) (h1 : n = 1) :
    Calls Tryz.prog 32 #[.pointer (some ⟨p, 0, none⟩), .int .i64 0] w fun x w' => Res 0 0 0 ⟨#[]⟩ true x ∧ Below w.heap.size w w' := by
  obtain ⟨c1, c2, c3⟩ := hS.cells
  subst h1
  have hb1 := fun o => (Below.refl _ w).alloc (Nat.le_refl _) o
  have hB1 : ∀ o o', Body ((w.alloc o).alloc o') b 1 l := fun o o' => (hS.body.below (hb1 o)).below ((Below.refl _ _).alloc (Nat.le_refl _) o')
  have d1 : ∀ o o', ((w.alloc o).alloc o').cell? ⟨p, 0, none⟩ = some (.slice (some ⟨b, 0, none⟩) 1 cap) := fun o o' => ((hS.below (hb1 o)).below ((Below.refl _ _).alloc (Nat.le_refl _) o')).cell
  have HR1 := Lib.hid (fun o o' => runeAt_end (some ⟨b, 0, none⟩) 1 cap 1 ((w.alloc o).alloc o') (by omega))
  have HV : ∀ o o', Below w.heap.size w ((w.alloc o).alloc o') := fun o o' => (hb1 o).alloc (by simp) o'
  have HX : ∀ o o', Below (w.alloc o).heap.size (w.alloc o) ((w.alloc o).alloc o') := fun o o' => (Below.refl _ _).alloc (Nat.le_refl _) o'
  have HE := Lib.hid (fun o o' i (h0 : 0 ≤ i) (h1 : i ≤ 4611686018427387904) d => syntaxError_any (hS.below (HV o o')) he (by omega) i h0 h1 d)
  have HV := Lib.hid HV
  have HX := Lib.hid HX
  clear c3 hb1 hB1
  go_enter Tryz.func32, Tryz.ntmps32
  go_wp2_with fail
  refine wp_loop_rounds 1 ?_
  rw [rounds_succ]
  go_wp2_with fail
  refine (HR1.out _ _).mono ?_
  rintro x w' ⟨rfl, rfl⟩
  go_wp2_with fail
  refine (HE.out _ _ _ (by omega) (by omega) _).mono ?_
  rintro x W3 ⟨⟨aerr, rfl⟩, hb3⟩
  have hx3 := (HX.out (.cells #[.int .i64 0, .int .i64 0, .int .i64 0, .string ⟨#[]⟩] 48) (.cells #[.slice none 0 0, .int .i64 0, .int .i8 0] 78)).trans (hb3.mono (by simp))
  have HV3 := Lib.hid ((HV.out (.cells #[.int .i64 0, .int .i64 0, .int .i64 0, .string ⟨#[]⟩] 48) (.cells #[.slice none 0 0, .int .i64 0, .int .i8 0] 78)).trans (hb3.mono (by simp; omega)))
  obtain ⟨a0, a1, a2, a3, af, alt⟩ := box4 hx3
  clear hx3 hb3
  go_wp2_with fail
  have s0 : ∀ u : Value, (W3.setCell ⟨w.heap.size, 0, none⟩ u).cell? ⟨w.heap.size, 0, none⟩ = some u := fun u => World.cell?_setCell_same _ _ _ a0
  refine bodyPost_ret (v := .tuple #[.agg #[.int .i64 0, .int .i64 0, .int .i64 0, .string ⟨#[]⟩], .iface 62 (.pointer (some aerr))]) (by simp [results, Tryz.results32, go_sem, s0, a1, a2, a3]) rfl ⟨⟨_, rfl⟩, ?_⟩
  exact (((HV3.out.setCell (Nat.le_refl _) _).setCell (Nat.le_refl _) _).setCell (Nat.le_refl _) _).setCell (Nat.le_refl _) _

end Go.Proofs.YthmdgegaejanaaaGreatDoor
