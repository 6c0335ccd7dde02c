/- BLOCK STRINGS (readBlockString): printable signs and line feeds. -/
import Derived.Test.YthmdgegaejanaaaGreatDoorStrA
namespace Go.Proofs.YthmdgegaejanaaaGreatDoor
open Go.RowKit

/-- A block string's plain sign, or a line feed. -/
def BlockAt (c : Int) : Prop := c = 10 ∨ (32 ≤ c ∧ c ≤ 126 ∧ c ≠ 34 ∧ c ≠ 92)

set_option maxHeartbeats 3200000 in
set_option maxRecDepth 100000 in
/-- readBlockString: a block string of plain signs, over what its value is. -/
theorem block_plain {w : World} {p b n cap : Nat} {l : List UInt8} (hS : Src w p b n cap l) (hn : n ≤ 140737488355328) (e : Nat) (hqe : 3 ≤ e) (hen : e + 2 < n)
    (hin : ∀ j, 3 ≤ j → j < e → BlockAt (ch l j)) (h0 : ch l e = 34) (h1 : ch l (e + 1) = 34) (h2 : ch l (e + 2) = 34) (v : ByteArray)
    (hv : ∀ W, Calls Tryz.prog 48 #[.string (sub l 3 e)] W fun x w' => x = .returned (.string v) ∧ Below W.heap.size W w') :
    Calls Tryz.prog 31 #[.pointer (some ⟨p, 0, none⟩), .int .i64 0] w fun x w' => Res 19 0 (e + 3) v false x ∧ Below w.heap.size w w' := by
  obtain ⟨c1, c2, c3⟩ := hS.cells
  have hcap := hS.cap
  have hb1 := fun o => (Below.refl _ w).alloc (Nat.le_refl _) o
  have hB1 : ∀ o o', Body ((w.alloc o).alloc o') b n l := fun o o' => (hS.body.below (hb1 o)).below ((Below.refl _ _).alloc (Nat.le_refl _) o')
  have d1 : ∀ o o', ((w.alloc o).alloc o').cell? ⟨p, 0, none⟩ = some (.slice (some ⟨b, 0, none⟩) n cap) := fun o o' => ((hS.below (hb1 o)).below ((Below.refl _ _).alloc (Nat.le_refl _) o')).cell
  have HW := Lib.hid (fun o c => write_new hS.body hn 3 e c hqe (by omega) o)
  have HI := Lib.hid hin
  have HO := Lib.hid (And.intro h0 (And.intro h1 h2))
  have HB := Lib.hid hB1
  have HV := Lib.hid hv
  have hsl : ∀ W, (Instr.slice 32 (.slice (some ⟨b, 0, none⟩) n cap) (some (.int .i64 3)) (some (.int .i64 (e : Int))) none).run Tryz.prog W = .ok (.slice (some ⟨b, 3, none⟩) (e - 3) (cap - 3)) W := fun W => run_cut0 W b n cap 3 e (by omega) (by omega) (by omega)
  clear c3 hb1 hin h0 h1 h2 hB1 hv
  go_enter Tryz.func31, Tryz.ntmps31
  go_wp2_with fail
  go_loop [7, 8, 9, 11, 12] (fun u r z _ _ => ∃ j k : Nat, 3 ≤ j ∧ j ≤ e ∧ k ≤ j ∧ u = .int .i64 j ∧ r = .int .i64 k ∧ z = .int .i64 3) (fun u _ _ _ _ => n - (intOf u).toNat)
  case atStart => exact ⟨3, 3, by omega, by omega, by omega, rfl, rfl, rfl⟩
  case round =>
    obtain ⟨j, k, hj1, hj2, hk, rfl, rfl, rfl⟩ := hrel
    by_cases hje : j < e
    · have hc := HI.out j hj1 hje
      have HR := Lib.hid (fun o o' => runeAt_in (HB.out o o') cap (j : Int) (by omega) (by omega) (ch l j) (by rw [Int.toNat_natCast]))
      generalize ch l j = c at HR hc
      unfold BlockAt at hc
      have e3 : (c == 34) = false := by simp; omega
      have e4 : (c == 92) = false := by simp; omega
      have hx : (decide (c < 32) = false) ∨ (c = 10) := by
        rcases hc with hc | hc
        · exact .inr hc
        · exact .inl (by simp; omega)
      clear hc
      rcases hx with hx | rfl
      all_goals
        go_wp2_with (go_at_call 27; refine (HR.out _ _).mono ?_; rintro x w' ⟨rfl, rfl⟩)
        go_round
        case rel => exact ⟨j + 1, k + 1, by omega, by omega, by omega, by go_num, by go_num, rfl⟩
        case measure => simp [intOf]; omega
    · obtain rfl : j = e := by omega
      have HR := Lib.hid (fun o o' => runeAt_in (HB.out o o') cap (j : Int) (by omega) (by omega) 34 (by rw [Int.toNat_natCast]; exact HO.out.1))
      have HR1 := Lib.hid (fun o o' => runeAt_in (HB.out o o') cap ((j : Int) + 1) (by omega) (by omega) 34 (by rw [show ((j : Int) + 1).toNat = j + 1 by omega]; exact HO.out.2.1))
      have HR2 := Lib.hid (fun o o' => runeAt_in (HB.out o o') cap ((j : Int) + 2) (by omega) (by omega) 34 (by rw [show ((j : Int) + 2).toNat = j + 2 by omega]; exact HO.out.2.2))
      go_wp2_with fail
      refine (HR.out _ _).mono ?_
      rintro x w' ⟨rfl, rfl⟩
      go_wp2_with fail
      refine (HR1.out _ _).mono ?_
      rintro x w' ⟨rfl, rfl⟩
      go_wp2_with fail
      refine (HR2.out _ _).mono ?_
      rintro x w' ⟨rfl, rfl⟩
      go_wp2_with fail
      refine (HW.out _ _).mono ?_
      rintro x W2 ⟨rfl, hbuf, hb2⟩
      have hx : Below (w.alloc (.cells #[.int .i64 0, .int .i64 0, .int .i64 0, .string ⟨#[]⟩] 48)).heap.size (w.alloc (.cells #[.int .i64 0, .int .i64 0, .int .i64 0, .string ⟨#[]⟩] 48)) W2 := ((Below.refl _ _).alloc (Nat.le_refl _) _).trans (hb2.mono (by simp))
      have HX := Lib.hid hx
      have HB2 := Lib.hid (((Below.refl _ w).alloc (Nat.le_refl _) (.cells #[.int .i64 0, .int .i64 0, .int .i64 0, .string ⟨#[]⟩] 48)).trans (hx.mono (by simp)))
      have HS := Lib.hid (Tryz.Buffer_String _ _ (cutL l 3 j) W2 hbuf)
      clear hx hb2 hbuf HR HR1 HR2 HW
      go_wp2_with fail
      refine HS.out.mono ?_
      rintro x w' ⟨rfl, m, rfl⟩
      rw [cutL_sub]
      have HX3 := Lib.hid (below_drewN HX.out m)
      have HB3 := Lib.hid (below_drewN HB2.out m)
      clear HX HB2 HS
      generalize W2.drewN m = W3 at *
      go_wp2_with fail
      refine (HV.out _).mono ?_
      rintro x W4 ⟨rfl, hb4⟩
      have hx4 := HX3.out.trans (hb4.mono (by have := HX3.out.size; simpa using this))
      have HB4 := Lib.hid (HB3.out.trans (hb4.mono HB3.out.size))
      have HX4 := Lib.hid (box4 hx4)
      clear hx4 hb4 HB3 HX3
      go_wp2_with fail
      refine (makeToken_any _ _ _ _ _).mono ?_
      rintro x w' ⟨rfl, rfl⟩
      obtain ⟨a0, a1, a2, a3, af, alt⟩ := HX4.out.past 0 (.cells #[.int .i64 19, .int .i64 0, .int .i64 ((j : Int) + 3), .string v] 48)
      have HVV := Lib.hid ((below_drewN HB4.out 0).alloc (below_drewN HB4.out 0).size (.cells #[.int .i64 19, .int .i64 0, .int .i64 ((j : Int) + 3), .string v] 48))
      rw [show W4.drewN 0 = W4 by rfl] at a0 a1 a2 a3 af alt HVV
      generalize W4.alloc (.cells #[.int .i64 19, .int .i64 0, .int .i64 ((j : Int) + 3), .string v] 48) = V at *
      go_wp2_with fail
      have s0 : ∀ u : Value, (V.setCell ⟨w.heap.size, 0, none⟩ u).cell? ⟨w.heap.size, 0, none⟩ = some u := fun u => World.cell?_setCell_same _ _ _ a0
      refine bodyPost_ret (v := .tuple #[.agg #[.int .i64 19, .int .i64 0, .int .i64 ((j : Int) + 3), .string v], .nilIface]) (by simp [results, Tryz.results31, go_sem, s0, a1, a2, a3]) rfl ⟨by simp [Res], ?_⟩
      exact (((HVV.out.setCell (Nat.le_refl _) _).setCell (Nat.le_refl _) _).setCell (Nat.le_refl _) _).setCell (Nat.le_refl _) _

end Go.Proofs.YthmdgegaejanaaaGreatDoor
