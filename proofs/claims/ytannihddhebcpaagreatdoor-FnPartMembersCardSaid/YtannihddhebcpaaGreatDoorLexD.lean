/- AN ERROR MADE (NewSyntaxError), over texts of ASCII without line ends. -/
import Derived.Test.YtannihddhebcpaaGreatDoorLexC
import Derived.Lib.Hide
namespace Go.Proofs.YtannihddhebcpaaGreatDoor
open Go.RowKit

theorem Src.cells {w : World} {p b n cap : Nat} {l : List UInt8} (h : Src w p b n cap l) :
    (∀ o, (w.alloc o).cell? ⟨p, 0, none⟩ = some (.slice (some ⟨b, 0, none⟩) n cap)) ∧ (∀ o o', ((w.alloc o).alloc o').cell? ⟨p, 0, none⟩ = some (.slice (some ⟨b, 0, none⟩) n cap)) ∧
    (∀ o o' o'', (((w.alloc o).alloc o').alloc o'').cell? ⟨p, 0, none⟩ = some (.slice (some ⟨b, 0, none⟩) n cap)) := by
  have hlt := h.lt
  have h1 : ∀ o, (w.alloc o).cell? ⟨p, 0, none⟩ = some (.slice (some ⟨b, 0, none⟩) n cap) := fun o => by rw [World.cell?_alloc_past _ _ _ hlt]; exact h.cell
  have h2 : ∀ o o', ((w.alloc o).alloc o').cell? ⟨p, 0, none⟩ = some (.slice (some ⟨b, 0, none⟩) n cap) := fun o o' => by
    rw [World.cell?_alloc_past _ _ _ (by simp; omega)]; exact h1 o
  exact ⟨h1, h2, fun o o' o'' => by rw [World.cell?_alloc_past _ _ _ (by simp; omega)]; exact h2 o o'⟩

def NoEnds (l : List UInt8) : Prop := ∀ i, ch l i ≠ 10 ∧ ch l i ≠ 13

set_option maxHeartbeats 1600000 in
set_option maxRecDepth 100000 in
theorem lineEnds_any {w : World} {b n : Nat} {l : List UInt8} (hB : Body w b n l) (he : NoEnds l) (cap : Nat) (hn : n ≤ 4611686018427387904) :
    Calls Tryz.prog 193 #[.slice (some ⟨b, 0, none⟩) n cap] w fun x w' => x = .returned (.slice none 0 0) ∧ w = w' := by
  have HE := Lib.hid he
  clear he
  go_enter Tryz.func193, Tryz.ntmps193
  go_wp2_with fail
  go_loop [3, 4] (fun v u => ∃ j : Nat, j ≤ n ∧ v = .slice none 0 0 ∧ u = .int .i64 j) (fun _ u => n - (intOf u).toNat)
  case atStart => exact ⟨0, by omega, rfl, rfl⟩
  case round =>
    obtain ⟨j, hj, rfl, rfl⟩ := hrel
    by_cases hlt : j < n
    · have h1 := HE.out j
      have hc := hB.cell j hlt
      have hb := ch_in hB.ascii (i := j) (by rw [hB.len]; omega)
      generalize ch l j = c at h1 hc hb
      have b1 : (c == 10) = false := by simp; omega
      have b2 : (c == 13) = false := by simp; omega
      clear h1
      go_wp2
      go_round
      case rel => exact ⟨j + 1, by omega, rfl, by go_num⟩
      case measure => simp [intOf]; omega
    · obtain rfl : j = n := by omega
      go_wp2
      go_ret
      exact ⟨rfl, rfl⟩

set_option maxHeartbeats 1600000 in
set_option maxRecDepth 100000 in
theorem getLocation_any {w : World} {p b n cap : Nat} {l : List UInt8} (hS : Src w p b n cap l) (he : NoEnds l) (hn : n ≤ 4611686018427387904) (i : Int) (hi : 0 ≤ i) (hi' : i ≤ 4611686018427387904) :
    Calls Tryz.prog 185 #[.pointer (some ⟨p, 0, none⟩), .int .i64 i] w fun x w' => x = .returned (.agg #[.int .i64 1, .int .i64 (i + 1)]) ∧ Below w.heap.size w w' := by
  obtain ⟨c1, c2, c3⟩ := hS.cells
  have hB2 := fun o o' => hS.body.below (((Below.refl _ w).alloc (Nat.le_refl _) o).alloc (by simp) o')
  have HL := Lib.hid (fun o o' => lineEnds_any (hB2 o o') he cap hn)
  clear c3 hB2
  go_enter Tryz.func185, Tryz.ntmps185
  go_wp2_with fail
  refine (HL.out _ _).mono ?_
  rintro x w' ⟨rfl, rfl⟩
  go_wp2_with fail
  go_rounds 1
  go_returns
  exact ⟨rfl, by go_grown⟩

/-- A pointer, not nil. -/
def IsPtr (e : Ending) : Prop := ∃ a, e = .returned (.pointer (some a))

theorem info119 : (Tryz.prog.info? 346).map (fun i => (i.zero, i.size, i.bytes)) = some (some (.agg #[.int .i64 0, .int .i64 0]), 2, 16) := by kernel_rfl

set_option maxHeartbeats 1600000 in
set_option maxRecDepth 100000 in
theorem newError_any {w : World} {p b n cap : Nat} {l : List UInt8} (hS : Src w p b n cap l) (he : NoEnds l) (hn : n ≤ 4611686018427387904) (i : Int) (hi : 0 ≤ i) (hi' : i ≤ 4611686018427387904)
    (A : Option Addr) (nc bp : Nat) (hbp : w.cell? ⟨bp, 0, none⟩ = some (.int .i64 i)) (hbl : bp < w.heap.size) :
    Calls Tryz.prog 172 #[.string ⟨#[83, 121, 110, 116, 97, 120, 32, 69, 114, 114, 111, 114]⟩, .slice A 0 nc, .string ⟨#[]⟩, .pointer (some ⟨p, 0, none⟩), .slice (some ⟨bp, 0, none⟩) 1 1, .slice none 0 0, .nilIface] w
      fun x w' => IsPtr x ∧ Below w.heap.size w w' := by
  obtain ⟨i0, hi0, hz0, hz1, hz2⟩ := info_parts info119
  have hbp1 : ∀ o, (w.alloc o).cell? ⟨bp, 0, none⟩ = some (.int .i64 i) := fun o => by rw [World.cell?_alloc_past _ _ _ hbl]; exact hbp
  have HL := Lib.hid (fun o => getLocation_any (hS.below ((Below.refl _ w).alloc (Nat.le_refl _) o)) he hn i hi hi')
  go_enter Tryz.func172, Tryz.ntmps172
  go_wp2_with fail
  refine wp_loop_rounds 2 ?_
  rw [rounds_succ]
  go_wp2_with fail
  refine (HL.out _).mono ?_
  rintro x W2 ⟨rfl, hb2⟩
  go_wp2_with fail
  rw [rounds_succ]
  go_wp2
  go_ret
  refine ⟨⟨_, rfl⟩, ?_⟩
  have h1 : Below w.heap.size w W2 := ((Below.refl _ w).alloc (Nat.le_refl _) _).trans (hb2.mono (by simp))
  exact ((((h1.alloc h1.size _).alloc (by have := h1.size; simp; omega) _).alloc (by have := h1.size; simp; omega) _).alloc (by have := h1.size; simp; omega) _).drew

set_option maxHeartbeats 1600000 in
set_option maxRecDepth 100000 in
theorem newErr_any {w : World} {p b n cap : Nat} {l : List UInt8} (hS : Src w p b n cap l) (he : NoEnds l) (hn : n ≤ 4611686018427387904) (i : Int) (hi : 0 ≤ i) (hi' : i ≤ 4611686018427387904)
    (A : Option Addr) (nc bp : Nat) (hbp : w.cell? ⟨bp, 0, none⟩ = some (.int .i64 i)) (hbl : bp < w.heap.size) :
    Calls Tryz.prog 160 #[.string ⟨#[83, 121, 110, 116, 97, 120, 32, 69, 114, 114, 111, 114]⟩, .slice A 0 nc, .string ⟨#[]⟩, .pointer (some ⟨p, 0, none⟩), .slice (some ⟨bp, 0, none⟩) 1 1, .nilIface] w
      fun x w' => IsPtr x ∧ Below w.heap.size w w' := by
  have HL := Lib.hid (newError_any hS he hn i hi hi' A nc bp hbp hbl)
  clear hbp
  go_enter Tryz.func160, Tryz.ntmps160
  go_wp2_with fail
  refine HL.out.mono ?_
  rintro x W2 ⟨⟨a, rfl⟩, hb2⟩
  go_wp2_with fail
  go_ret
  exact ⟨⟨_, rfl⟩, hb2⟩

set_option maxHeartbeats 1600000 in
set_option maxRecDepth 100000 in
/-- NewSyntaxError. -/
theorem syntaxError_any {w : World} {p b n cap : Nat} {l : List UInt8} (hS : Src w p b n cap l) (he : NoEnds l) (hn : n ≤ 4611686018427387904) (i : Int) (hi : 0 ≤ i) (hi' : i ≤ 4611686018427387904) (d : ByteArray) :
    Calls Tryz.prog 134 #[.pointer (some ⟨p, 0, none⟩), .int .i64 i, .string d] w fun x w' => IsPtr x ∧ Below w.heap.size w w' := by
  have hb : ∀ o o', Below w.heap.size w ((w.alloc o).alloc o') := fun o o' => ((Below.refl _ w).alloc (Nat.le_refl _) o).alloc (by simp) o'
  have HL := Lib.hid (fun o nc => newErr_any (hS.below (hb o (.cells #[.int .i64 i] 3))) he hn i hi hi' (some ⟨w.heap.size, 0, none⟩) nc (w.heap.size + 1)
    (by rw [World.cell?_alloc_at _ _ _ _ (by simp)]; rfl) (by simp))
  have HB := Lib.hid hb
  clear hb
  go_enter Tryz.func134, Tryz.ntmps134
  go_wp2_with fail
  refine (HL.out _ _).mono ?_
  rintro x W2 ⟨⟨a, rfl⟩, hb2⟩
  go_wp2_with fail
  go_ret
  exact ⟨⟨_, rfl⟩, (HB.out _ _).trans (hb2.mono (by simp; omega))⟩

end Go.Proofs.YtannihddhebcpaaGreatDoor
