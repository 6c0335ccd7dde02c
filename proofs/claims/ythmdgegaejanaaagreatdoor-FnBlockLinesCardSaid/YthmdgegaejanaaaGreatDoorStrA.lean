/- STRINGS (readString): plain signs. -/
import Derived.Test.YthmdgegaejanaaaGreatDoorTokRes
import Derived.Test.YthmdgegaejanaaaGreatDoorShelf
namespace Go.Proofs.YthmdgegaejanaaaGreatDoor
open Go.RowKit

/-- 'body[i:e]', i ≤ e, i inside. -/
theorem run_cut0 (W : World) (b n cap i e : Nat) (h : i ≤ e) (hi : i < cap) (he : e ≤ cap) :
    (Instr.slice 32 (.slice (some ⟨b, 0, none⟩) n cap) (some (.int .i64 (i : Int))) (some (.int .i64 (e : Int))) none).run Tryz.prog W = .ok (.slice (some ⟨b, i, none⟩) (e - i) (cap - i)) W := by
  have ht' : Tryz.prog.underlying 32 = some (.slice (Tryz.prog.elem 32)) := by simp [Program.elem, Tryz.underlying32]
  have he' : Tryz.prog.elem 32 = 5 := by simp [Program.elem, Tryz.underlying32]
  have hz : ∀ w, (Go.sizeOf 5).run Tryz.prog w = .ok 1 w := fun w => by kernel_rfl
  rw [run_slice_lh W 32 _ _ _ ht' .i64 .i64 _ _ (by omega) (by omega) (by omega), he', hz]
  have hne : ¬ cap = i := by omega
  by_cases h0 : i = 0
  · subst h0
    simp [Result.andThen, sliced, Addr.add, hne]
  · simp [Result.andThen, sliced, Addr.add, hne, h0]

/-- The bytes from i to e, as a list. -/
def cutL (l : List UInt8) (i e : Nat) : List UInt8 := (l.drop i).take (e - i)
theorem cutL_sub (l : List UInt8) (i e : Nat) : (⟨(cutL l i e).toArray⟩ : ByteArray) = sub l i e := rfl
theorem cutL_len {l : List UInt8} {i e : Nat} (h : i ≤ e) (he : e ≤ l.length) : (cutL l i e).length = e - i := by
  unfold cutL
  rw [List.length_take, List.length_drop]
  omega
/-- What the body's cells hold, as 'Write' asks for it. -/
theorem cutL_src {w : World} {b n : Nat} {l : List UInt8} (hB : Body w b n l) (i e : Nat) (he : e ≤ n) :
    ∀ j v, (Lib.byteCells (cutL l i e))[j]? = some v → w.cell? ((⟨b, i, none⟩ : Addr).add j) = some v := by
  intro j v hj
  rw [Lib.addr_add]
  unfold Lib.byteCells cutL at hj
  rw [List.getElem?_map] at hj
  rw [List.getElem?_take] at hj
  by_cases hlt : j < e - i
  · rw [if_pos hlt, List.getElem?_drop] at hj
    have hin : i + j < l.length := by rw [hB.len]; omega
    rw [List.getElem?_eq_getElem hin] at hj
    rw [hB.cell (i + j) (by omega), ch_get hin]
    simpa using hj
  · rw [if_neg hlt] at hj
    simp at hj

/-- A string's plain sign. -/
def PlainAt (c : Int) : Prop := 32 ≤ c ∧ c ≤ 126 ∧ c ≠ 34 ∧ c ≠ 92

theorem Box4.past {g : Nat} {c0 c1 c2 c3 : Value} {W : World} (h : Box4 g c0 c1 c2 c3 W) (m : Nat) (o : Obj) : Box4 g c0 c1 c2 c3 ((W.drewN m).alloc o) :=
  have k : Box4 g c0 c1 c2 c3 (W.drewN m) := ⟨h.a0, h.a1, h.a2, h.a3, h.f, h.lt⟩
  ⟨(World.cell?_alloc_past _ _ _ k.lt).trans k.a0, (World.cell?_alloc_past _ _ _ k.lt).trans k.a1, (World.cell?_alloc_past _ _ _ k.lt).trans k.a2, (World.cell?_alloc_past _ _ _ k.lt).trans k.a3,
    fun j => (World.frozen?_alloc_past _ _ _ k.lt).trans (k.f j), by have := h.lt; show g < ((W.drewN m).alloc o).heap.size; simp only [World.alloc, World.drewN, Array.size_push]; omega⟩
/-- The buffer behind the last Write, in the world of two blocks more. -/
theorem write_new {w : World} {b n : Nat} {l : List UInt8} (hB : Body w b n l) (hn : n ≤ 140737488355328) (i e c : Nat) (hie : i ≤ e) (he : e ≤ n) (o : Obj) :
    Calls Tryz.prog 47 #[.pointer (some ⟨w.heap.size + 1, 0, none⟩), .slice (some ⟨b, i, none⟩) (e - i) c] ((w.alloc o).alloc (.cells #[.slice none 0 0, .int .i64 0, .int .i8 0] 78)) fun x w' =>
      x = .returned (.tuple #[.int .i64 ((e - i : Nat) : Int), .nilIface]) ∧ Lib.IsBuffer 78 5 (w.heap.size + 1) (w.heap.size + 1) (Lib.byteCells (cutL l i e)) w' ∧ Below (w.heap.size + 1) ((w.alloc o).alloc (.cells #[.slice none 0 0, .int .i64 0, .int .i8 0] 78)) w' := by
  have hf := Lib.fresh_isBuffer 78 5 (w.alloc o)
  rw [show (w.alloc o).heap.size = w.heap.size + 1 by simp] at hf
  have hB2 := hB.below (((Below.refl _ w).alloc (Nat.le_refl _) o).alloc (by simp) (.cells #[.slice none 0 0, .int .i64 0, .int .i8 0] 78))
  have hl : (Lib.byteCells (cutL l i e)).length = e - i := by rw [Lib.byteCells_length, cutL_len hie (by rw [hB.len]; exact he)]
  have := Tryz.Buffer_Write (w.heap.size + 1) (w.heap.size + 1) [] (Lib.byteCells (cutL l i e)) ⟨b, i, none⟩ (e - i) c _ hf (by simp) (by simp) hl (by have := hB.lt; show b < _; omega)
    (cutL_src hB2 i e he) (Lib.byteCells_one _) (by simp; omega)
  simpa using this

set_option maxHeartbeats 3200000 in
set_option maxRecDepth 100000 in
/-- readString: a string of plain signs. -/
theorem str_plain {w : World} {p b n cap : Nat} {l : List UInt8} (hS : Src w p b n cap l) (hn : n ≤ 140737488355328) (q e : Nat) (hqe : q < e) (hen : e < n)
    (hin : ∀ j, q < j → j < e → PlainAt (ch l j)) (hout : ch l e = 34) :
    Calls Tryz.prog 32 #[.pointer (some ⟨p, 0, none⟩), .int .i64 (q : Int)] w fun x w' => Res 18 q (e + 1) (sub l (q + 1) e) false x ∧ Below w.heap.size w w' := by
  obtain ⟨c1, c2, c3⟩ := hS.cells
  have hcap := hS.cap
  have hb1 := fun o => (Below.refl _ w).alloc (Nat.le_refl _) o
  have hB1 : ∀ o o', Body ((w.alloc o).alloc o') b n l := fun o o' => (hS.body.below (hb1 o)).below ((Below.refl _ _).alloc (Nat.le_refl _) o')
  have d1 : ∀ o o', ((w.alloc o).alloc o').cell? ⟨p, 0, none⟩ = some (.slice (some ⟨b, 0, none⟩) n cap) := fun o o' => ((hS.below (hb1 o)).below ((Below.refl _ _).alloc (Nat.le_refl _) o')).cell
  have HW := Lib.hid (fun o c => write_new hS.body hn (q + 1) e c hqe (by omega) o)
  have HI := Lib.hid hin
  have HO := Lib.hid hout
  have HB := Lib.hid hB1
  have hsl : ∀ W, (Instr.slice 32 (.slice (some ⟨b, 0, none⟩) n cap) (some (.int .i64 ((q : Int) + 1))) (some (.int .i64 (e : Int))) none).run Tryz.prog W = .ok (.slice (some ⟨b, q + 1, none⟩) (e - (q + 1)) (cap - (q + 1))) W := fun W => by
    have := run_cut0 W b n cap (q + 1) e (by omega) (by omega) (by omega)
    rwa [show ((q + 1 : Nat) : Int) = (q : Int) + 1 by omega] at this
  clear c3 hb1 hin hout hB1
  go_enter Tryz.func32, Tryz.ntmps32
  go_wp2_with fail
  go_loop [7, 8, 9, 10, 11] (fun u r z c m => ∃ j k : Nat, q < j ∧ j ≤ e ∧ k ≤ j ∧ u = .int .i64 j ∧ r = .int .i64 k ∧ z = .int .i64 ((q : Int) + 1) ∧ ∃ (x y : Int), c = .int .i32 x ∧ m = .int .i64 y) (fun u _ _ _ _ => n - (intOf u).toNat)
  case atStart => exact ⟨q + 1, q + 1, by omega, by omega, by omega, by go_num, by go_num, rfl, 0, 0, rfl, rfl⟩
  case round =>
    obtain ⟨j, k, hj1, hj2, hk, rfl, rfl, rfl, x0, y0, rfl, rfl⟩ := hrel
    by_cases hje : j < e
    · obtain ⟨k0, k1, k2, k3⟩ := HI.out j hj1 hje
      have HR := Lib.hid (fun o o' => runeAt_in (HB.out o o') cap (j : Int) (by omega) (by omega) (ch l j) (by rw [Int.toNat_natCast]))
      generalize ch l j = c at HR k0 k1 k2 k3
      have e1 : (c != 10) = true := by rw [bne_iff_ne]; omega
      have e2 : (c != 13) = true := by rw [bne_iff_ne]; omega
      have e3 : (c != 34) = true := by rw [bne_iff_ne]; omega
      have e4 : (c == 92) = false := by simp; omega
      go_wp2_with (go_at_call 27; refine (HR.out _ _).mono ?_; rintro x w' ⟨rfl, rfl⟩)
      go_round
      case rel => exact ⟨j + 1, k + 1, by omega, by omega, by omega, by go_num, by go_num, rfl, _, _, rfl, rfl⟩
      case measure => simp [intOf]; omega
    · obtain rfl : j = e := by omega
      have HR := Lib.hid (fun o o' => runeAt_in (HB.out o o') cap (j : Int) (by omega) (by omega) 34 (by rw [Int.toNat_natCast]; exact HO.out))
      go_wp2_with (go_at_call 27; refine (HR.out _ _).mono ?_; rintro x w' ⟨rfl, rfl⟩)
      refine (HW.out _ _).mono ?_
      rintro x W2 ⟨rfl, hbuf, hb2⟩
      have hx : Below (w.alloc (.cells #[.int .i64 0, .int .i64 0, .int .i64 0, .string ⟨#[]⟩] 48)).heap.size (w.alloc (.cells #[.int .i64 0, .int .i64 0, .int .i64 0, .string ⟨#[]⟩] 48)) W2 := ((Below.refl _ _).alloc (Nat.le_refl _) _).trans (hb2.mono (by simp))
      have HX := Lib.hid (box4 hx)
      have HB2 := Lib.hid (((Below.refl _ w).alloc (Nat.le_refl _) (.cells #[.int .i64 0, .int .i64 0, .int .i64 0, .string ⟨#[]⟩] 48)).trans (hx.mono (by simp)))
      have HS := Lib.hid (Tryz.Buffer_String _ _ (cutL l (q + 1) j) W2 hbuf)
      clear hx hb2 hbuf
      go_wp2_with fail
      refine HS.out.mono ?_
      rintro x w' ⟨rfl, m, rfl⟩
      go_wp2_with fail
      refine (makeToken_any _ _ _ _ _).mono ?_
      rintro x w' ⟨rfl, rfl⟩
      obtain ⟨a0, a1, a2, a3, af, alt⟩ := HX.out.past m (.cells #[.int .i64 18, .int .i64 q, .int .i64 ((j : Int) + 1), .string (sub l (q + 1) j)] 48)
      have HV := Lib.hid ((below_drewN HB2.out m).alloc (below_drewN HB2.out m).size (.cells #[.int .i64 18, .int .i64 q, .int .i64 ((j : Int) + 1), .string (sub l (q + 1) j)] 48))
      rw [cutL_sub]
      generalize (W2.drewN m).alloc (.cells #[.int .i64 18, .int .i64 q, .int .i64 ((j : Int) + 1), .string (sub l (q + 1) j)] 48) = V at *
      go_wp2_with fail
      have s0 : ∀ u : Value, (V.setCell ⟨w.heap.size, 0, none⟩ u).cell? ⟨w.heap.size, 0, none⟩ = some u := fun u => World.cell?_setCell_same _ _ _ a0
      refine bodyPost_ret (v := .tuple #[.agg #[.int .i64 18, .int .i64 q, .int .i64 ((j : Int) + 1), .string (sub l (q + 1) j)], .nilIface]) (by simp [results, Tryz.results32, go_sem, s0, a1, a2, a3]) rfl ⟨rfl, ?_⟩
      exact (((HV.out.setCell (Nat.le_refl _) _).setCell (Nat.le_refl _) _).setCell (Nat.le_refl _) _).setCell (Nat.le_refl _) _

end Go.Proofs.YthmdgegaejanaaaGreatDoor
