/- THE LEXER's CLOSURE (Lex, its function, NewSource, token) over one token's contract. -/
import Derived.Test.YtannihddhebcpaaGreatDoorTokA
import Derived.Test.YtannihddhebcpaaGreatDoorFrames
namespace Go.Proofs.YtannihddhebcpaaGreatDoor
open Go.RowKit

/-- From place i on the next token of the text l is this one. -/
def TokAt (l : List UInt8) (i : Nat) (k : Int) (s e : Nat) (v : ByteArray) : Prop := ∀ (W : World) (p b n cap : Nat), Src W p b n cap l → n ≤ 4611686018427387904 →
  Calls Tryz.prog 133 #[.pointer (some ⟨p, 0, none⟩), .int .i64 (i : Int)] W fun x w' => x = .returned (.tuple #[.agg #[.int .i64 k, .int .i64 s, .int .i64 e, .string v], .nilIface]) ∧ Below W.heap.size W w'
/-- An error beside a token of zeros. -/
def IsErr (x : Ending) : Prop := ∃ a, x = .returned (.tuple #[.agg #[.int .i64 0, .int .i64 0, .int .i64 0, .string ⟨#[]⟩], .iface 281 (.pointer (some a))])
/-- From place i on the text l is refused. -/
def ErrAt (l : List UInt8) (i : Nat) : Prop := ∀ (W : World) (p b n cap : Nat), Src W p b n cap l → n ≤ 4611686018427387904 →
  Calls Tryz.prog 133 #[.pointer (some ⟨p, 0, none⟩), .int .i64 (i : Int)] W fun x w' => IsErr x ∧ Below W.heap.size W w'

/-- The closure's two variables: where it is (block g), and its source (block h). -/
structure Vars (W : World) (g h p i : Nat) : Prop where
  pos : W.cell? ⟨g, 0, none⟩ = some (.int .i64 i)
  free : W.frozen? ⟨g, 0, none⟩ = false
  src : W.cell? ⟨h, 0, none⟩ = some (.pointer (some ⟨p, 0, none⟩))
  lg : g < W.heap.size
  lh : h < W.heap.size

set_option maxHeartbeats 1600000 in
set_option maxRecDepth 100000 in
theorem next_err {W : World} {g h p b n cap i : Nat} {l : List UInt8} (hT : ErrAt l i) (hS : Src W p b n cap l) (hn : n ≤ 4611686018427387904) (hV : Vars W g h p i) :
    Calls Tryz.prog 132 #[.int .i64 0, .pointer (some ⟨g, 0, none⟩), .pointer (some ⟨h, 0, none⟩)] W fun x w' =>
      IsErr x ∧ W.grownBy w' (some g) := by
  obtain ⟨v0, v1, v2, v3, v4⟩ := hV
  have d0 : ∀ o, (W.alloc o).cell? ⟨g, 0, none⟩ = some (.int .i64 i) := fun o => by rw [World.cell?_alloc_past _ _ _ v3]; exact v0
  have d2 : ∀ o, (W.alloc o).cell? ⟨h, 0, none⟩ = some (.pointer (some ⟨p, 0, none⟩)) := fun o => by rw [World.cell?_alloc_past _ _ _ v4]; exact v2
  have hb1 := fun o => (Below.refl _ W).alloc (Nat.le_refl _) o
  have HT := Lib.hid (fun o => hT _ _ _ _ _ (hS.below (hb1 o)) hn)
  clear hT
  go_enter Tryz.func132, Tryz.ntmps132
  go_wp2_with fail
  refine (HT.out _).mono ?_
  rintro x W2 ⟨⟨aerr, rfl⟩, hb2⟩
  obtain ⟨a0, a1, a2, a3, af, alt⟩ := box4 hb2
  have e0 : W2.cell? ⟨g, 0, none⟩ = some (.int .i64 i) := (hb2.cell (p := ⟨g, 0, none⟩) (by simp; omega)).trans (d0 _)
  have e1 : W2.frozen? ⟨g, 0, none⟩ = false := (hb2.frozen (p := ⟨g, 0, none⟩) (by simp; omega)).trans ((World.frozen?_alloc_past _ _ _ v3).trans v1)
  have hg2 : g < W2.heap.size := by omega
  have HB2 := Lib.hid hb2
  have HA := Lib.hid (And.intro a0 (And.intro a1 (And.intro a2 a3)))
  have HE := Lib.hid e0
  clear hb2 hS v0 v1 v2
  go_wp2_with fail
  have s0 : ∀ u : Value, (W2.setCell ⟨W.heap.size, 0, none⟩ u).cell? ⟨W.heap.size, 0, none⟩ = some u := fun u => World.cell?_setCell_same _ _ _ a0
  refine bodyPost_ret (v := .tuple #[.agg #[.int .i64 0, .int .i64 0, .int .i64 0, .string ⟨#[]⟩], .iface 281 (.pointer (some aerr))]) (by simp [results, Tryz.results132, go_sem, s0, a1, a2, a3, alt]) rfl ⟨⟨_, rfl⟩, ?_⟩
  have k1 : W.grownBy W2 (some g) := only_of_below (((Below.refl _ W).alloc (Nat.le_refl _) _).trans (HB2.out.mono (by simp))) _
  exact only_alloc (only_setCell (only_setCell (only_setCell (only_setCell k1 (.inr (Nat.le_refl _)) _) (.inr (Nat.le_refl _)) _) (.inr (Nat.le_refl _)) _) (.inr (Nat.le_refl _)) _) _

set_option maxHeartbeats 1600000 in
set_option maxRecDepth 100000 in
theorem next_tok {W : World} {g h p b n cap i : Nat} {l : List UInt8} {k : Int} {s e : Nat} {v : ByteArray} (hT : TokAt l i k s e v) (hS : Src W p b n cap l) (hn : n ≤ 4611686018427387904) (hV : Vars W g h p i) :
    Calls Tryz.prog 132 #[.int .i64 0, .pointer (some ⟨g, 0, none⟩), .pointer (some ⟨h, 0, none⟩)] W fun x w' =>
      x = .returned (.tuple #[.agg #[.int .i64 k, .int .i64 s, .int .i64 e, .string v], .nilIface]) ∧ w'.cell? ⟨g, 0, none⟩ = some (.int .i64 e) ∧ w'.frozen? ⟨g, 0, none⟩ = false ∧ W.grownBy w' (some g) := by
  obtain ⟨v0, v1, v2, v3, v4⟩ := hV
  have d0 : ∀ o, (W.alloc o).cell? ⟨g, 0, none⟩ = some (.int .i64 i) := fun o => by rw [World.cell?_alloc_past _ _ _ v3]; exact v0
  have d2 : ∀ o, (W.alloc o).cell? ⟨h, 0, none⟩ = some (.pointer (some ⟨p, 0, none⟩)) := fun o => by rw [World.cell?_alloc_past _ _ _ v4]; exact v2
  have hb1 := fun o => (Below.refl _ W).alloc (Nat.le_refl _) o
  have HT := Lib.hid (fun o => hT _ _ _ _ _ (hS.below (hb1 o)) hn)
  clear hT
  go_enter Tryz.func132, Tryz.ntmps132
  go_wp2_with fail
  refine (HT.out _).mono ?_
  rintro x W2 ⟨rfl, hb2⟩
  obtain ⟨a0, a1, a2, a3, af, alt⟩ := box4 hb2
  have e0 : W2.cell? ⟨g, 0, none⟩ = some (.int .i64 i) := (hb2.cell (p := ⟨g, 0, none⟩) (by simp; omega)).trans (d0 _)
  have e1 : W2.frozen? ⟨g, 0, none⟩ = false := (hb2.frozen (p := ⟨g, 0, none⟩) (by simp; omega)).trans ((World.frozen?_alloc_past _ _ _ v3).trans v1)
  have hg2 : g < W2.heap.size := by omega
  have HB2 := Lib.hid hb2
  have HA := Lib.hid (And.intro a0 (And.intro a1 (And.intro a2 a3)))
  have HE := Lib.hid e0
  clear hb2 hS v0 v1 v2
  go_wp2_with fail
  obtain ⟨a0, a1, a2, a3⟩ := HA.out
  have e0 := HE.out
  have r0 : ∀ u x : Value, ((W2.setCell ⟨g, 0, none⟩ u).setCell ⟨W.heap.size, 0, none⟩ x).cell? ⟨W.heap.size, 0, none⟩ = some x := fun u x => set2_same (by omega) a0
  refine bodyPost_ret (v := .tuple #[.agg #[.int .i64 k, .int .i64 s, .int .i64 e, .string v], .nilIface]) (by simp [results, Tryz.results132, go_sem, r0, a1, a2, a3, alt]) rfl ⟨rfl, ?_, ?_, ?_⟩
  · have hx : ∀ x : Value, (W2.setCell ⟨g, 0, none⟩ x).cell? ⟨g, 0, none⟩ = some x := fun x => World.cell?_setCell_same _ _ _ e0
    rw [World.cell?_alloc_past _ _ _ (by simpa [World.setCell] using hg2)]
    rw [World.cell?_setCell_other _ _ _ _ (addr_ne (by omega)), World.cell?_setCell_other _ _ _ _ (addr_ne (by omega)), World.cell?_setCell_other _ _ _ _ (addr_ne (by omega)), World.cell?_setCell_other _ _ _ _ (addr_ne (by omega))]
    exact hx _
  · rw [World.frozen?_alloc_past _ _ _ (by simpa [World.setCell] using hg2), World.frozen?_setCell, World.frozen?_setCell, World.frozen?_setCell, World.frozen?_setCell, World.frozen?_setCell]
    exact e1
  · have k1 : W.grownBy W2 (some g) := only_of_below (((Below.refl _ W).alloc (Nat.le_refl _) _).trans (HB2.out.mono (by simp))) _
    exact only_alloc (only_setCell (only_setCell (only_setCell (only_setCell (only_setCell k1 (.inl rfl) _) (.inr (Nat.le_refl _)) _) (.inr (Nat.le_refl _)) _) (.inr (Nat.le_refl _)) _) (.inr (Nat.le_refl _)) _) _

end Go.Proofs.YtannihddhebcpaaGreatDoor
