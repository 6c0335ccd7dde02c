/- ONE TOKEN (readToken): strings, over readString's contract. -/
import Derived.Test.YthmdgegaejanaaaGreatDoorTokRes
namespace Go.Proofs.YthmdgegaejanaaaGreatDoor
open Go.RowKit

set_option maxHeartbeats 3200000 in
set_option maxRecDepth 100000 in
theorem tok_string {w : World} {p b n cap : Nat} {l : List UInt8} (hS : Src w p b n cap l) (hn : n ≤ 4611686018427387904) (i q : Nat) (hi : i ≤ n) (hs : Skips l i q) (k : Int) (s e : Nat) (v : ByteArray) (bad : Bool) (hc : ch l q = 34) (h1 : ch l (q + 1) ≠ 34 ∨ ch l (q + 2) ≠ 34)
    (hN : ∀ W : World, Src W p b n cap l → Calls Tryz.prog 32 #[.pointer (some ⟨p, 0, none⟩), .int .i64 (q : Int)] W fun x w' => Res k s e v bad x ∧ Below W.heap.size W w') :
    Calls Tryz.prog 23 #[.pointer (some ⟨p, 0, none⟩), .int .i64 (i : Int)] w fun x w' => Res k s e v bad x ∧ Below w.heap.size w w' := by
  obtain ⟨c1, c2, c3⟩ := hS.cells
  have hqn : q < n := by have := ch_lt (l := l) (i := q) (by omega); rw [hS.body.len] at this; exact this
  have hb1 := fun o => (Below.refl _ w).alloc (Nat.le_refl _) o
  have HS := Lib.hid (fun o => skip_any (hS.body.below (hb1 o)) cap i q hn hi hs)
  have HR := Lib.hid (fun o => runeAt_in (hS.body.below (hb1 o)) cap (q : Int) (by omega) (by omega) 34 (by rw [Int.toNat_natCast]; exact hc))
  have HR1 := Lib.hid (fun o o' => runeAt_any ((hS.below (hb1 o)).below ((Below.refl _ _).alloc (Nat.le_refl _) o')).body cap ((q : Int) + 1) (by omega))
  have HR2 := Lib.hid (fun o o' => runeAt_any ((hS.below (hb1 o)).below ((Below.refl _ _).alloc (Nat.le_refl _) o')).body cap ((q : Int) + 2) (by omega))
  rw [show ((q : Int) + 1).toNat = q + 1 by omega] at HR1
  rw [show ((q : Int) + 2).toNat = q + 2 by omega] at HR2
  generalize ch l (q + 1) = d1 at h1 HR1
  generalize cw l (q + 1) = e1 at HR1
  generalize ch l (q + 2) = d2 at h1 HR2
  generalize cw l (q + 2) = e2 at HR2
  have b1 : (d1 == 34) = false ∨ ((d1 == 34) = true ∧ (d2 == 34) = false) := by
    by_cases h : d1 = 34
    · exact .inr ⟨by simpa using h, by simp; omega⟩
    · exact .inl (by simpa using h)
  clear h1
  have HN := Lib.hid (fun o o' => hN _ ((hS.below (hb1 o)).below ((Below.refl _ _).alloc (Nat.le_refl _) o')))
  have HB := Lib.hid hb1
  clear c3 hs hb1 hc hN
  go_enter Tryz.func23, Tryz.ntmps23
  rcases b1 with b1 | ⟨b1, b2⟩
  all_goals
    go_wp2_with fail
    refine (HS.out _).mono ?_
    rintro x w' ⟨rfl, rfl⟩
    go_wp2_with fail
    refine (HR.out _).mono ?_
    rintro x w' ⟨rfl, rfl⟩
    go_wp2_with fail
    refine (HR1.out _ _).mono ?_
    rintro x w' ⟨rfl, rfl⟩
    go_wp2_with fail
    refine (HR2.out _ _).mono ?_
    rintro x w' ⟨rfl, rfl⟩
    go_wp2_with fail
    refine (HN.out _ _).mono ?_
    rintro x W2 ⟨hres, hb2⟩
    obtain ⟨⟨a0, a1, a2, a3, af, alt⟩, g0, g1, g2, g3, gf, glt⟩ := box44 hb2
    have HB2 := Lib.hid hb2
    clear hb2
    cases bad with
    | false =>
      obtain rfl := hres
      go_wp2_with fail
      have s0 := fun x0 x1 x2 x3 u : Value => set5_same (g := w.heap.size + 1) (b := w.heap.size) (by omega) a0 x0 x1 x2 x3 u
      refine bodyPost_ret (v := .tuple #[.agg #[.int .i64 k, .int .i64 s, .int .i64 e, .string v], .nilIface]) (by simp [results, Tryz.results23, go_sem, s0, a1, a2, a3]) rfl ⟨rfl, ?_⟩
      have hb2 := HB2.out
      have h1 : Below w.heap.size w W2 := (((Below.refl _ w).alloc (Nat.le_refl _) _).alloc (by simp) _).trans (hb2.mono (by simp; omega))
      exact (((((((h1.setCell (Nat.le_succ _) _).setCell (Nat.le_succ _) _).setCell (Nat.le_succ _) _).setCell (Nat.le_succ _) _).setCell (Nat.le_refl _) _).setCell (Nat.le_refl _) _).setCell (Nat.le_refl _) _).setCell (Nat.le_refl _) _
    | true =>
      obtain ⟨aerr, rfl⟩ := hres
      go_wp2_with fail
      have s0 := fun x0 x1 x2 x3 u : Value => set5_same (g := w.heap.size + 1) (b := w.heap.size) (by omega) a0 x0 x1 x2 x3 u
      refine bodyPost_ret (v := .tuple #[.agg #[.int .i64 k, .int .i64 s, .int .i64 e, .string v], .iface 62 (.pointer (some aerr))]) (by simp [results, Tryz.results23, go_sem, s0, a1, a2, a3]) rfl ⟨⟨aerr, rfl⟩, ?_⟩
      have hb2 := HB2.out
      have h1 : Below w.heap.size w W2 := (((Below.refl _ w).alloc (Nat.le_refl _) _).alloc (by simp) _).trans (hb2.mono (by simp; omega))
      exact (((((((h1.setCell (Nat.le_succ _) _).setCell (Nat.le_succ _) _).setCell (Nat.le_succ _) _).setCell (Nat.le_succ _) _).setCell (Nat.le_refl _) _).setCell (Nat.le_refl _) _).setCell (Nat.le_refl _) _).setCell (Nat.le_refl _) _

end Go.Proofs.YthmdgegaejanaaaGreatDoor
