/- THE LEXER's SMALL FUNCTIONS: contracts of runeAt, makeToken, positionAfterWhitespace over texts of ASCII. -/
import Derived.Test.YtannihddhebcpaaGreatDoorProg
import Derived.Test.YtannihddhebcpaaGreatDoorPlain
import Derived.WalkKit
import Derived.WalkSpells
import Derived.WalkLawsBesides
import Derived.Handy
import Derived.Lib.Hide
namespace Go.Proofs.YtannihddhebcpaaGreatDoor
open Go.RowKit

/-- Block b holds the text l, of n bytes of ASCII. -/
structure Body (w : World) (b n : Nat) (l : List UInt8) : Prop where
  len : l.length = n
  ascii : Ascii l
  lt : b < w.heap.size
  cell : ∀ i, i < n → w.cell? ⟨b, i, none⟩ = some (.int .u8 (ch l i))

theorem Body.below {w w' : World} {b n : Nat} {l : List UInt8} (h : Body w b n l) (hb : Below w.heap.size w w') : Body w' b n l :=
  ⟨h.len, h.ascii, by have := hb.size; have := h.lt; omega, fun i hi => (hb.cell (p := ⟨b, i, none⟩) h.lt).trans (h.cell i hi)⟩
theorem Body.keep {w w' : World} {b n B : Nat} {l : List UInt8} (h : Body w b n l) (hb : Below B w w') (hB : b < B) : Body w' b n l :=
  ⟨h.len, h.ascii, by have := hb.size; have := h.lt; omega, fun i hi => (hb.cell (p := ⟨b, i, none⟩) hB).trans (h.cell i hi)⟩

set_option maxHeartbeats 400000 in
theorem runeAt_end (A : Option Addr) (n cap : Nat) (i : Int) (w : World) (h : (n : Int) ≤ i) :
    Calls Tryz.prog 155 #[.slice A n cap, .int .i64 i] w fun e w' => e = .returned (.tuple #[.int .i32 (-1), .int .i64 65533]) ∧ w = w' := by
  go_enter Tryz.func155, Tryz.ntmps155
  go_wp2
  go_ret2
  exact ⟨rfl, rfl⟩

set_option maxHeartbeats 400000 in
theorem runeAt_nat (b n cap : Nat) (i : Nat) (c : Int) (w : World) (h : i < n) (hc : w.cell? ⟨b, i, none⟩ = some (.int .u8 c)) (h0 : 0 ≤ c) (h1 : c < 128) :
    Calls Tryz.prog 155 #[.slice (some ⟨b, 0, none⟩) n cap, .int .i64 (i : Int)] w fun e w' => e = .returned (.tuple #[.int .i32 c, .int .i64 1]) ∧ w = w' := by
  go_enter Tryz.func155, Tryz.ntmps155
  go_wp2
  go_ret2
  exact ⟨rfl, rfl⟩

/-- At whatever place. -/
theorem runeAt_any {w : World} {b n : Nat} {l : List UInt8} (hB : Body w b n l) (cap : Nat) (i : Int) (h0 : 0 ≤ i) :
    Calls Tryz.prog 155 #[.slice (some ⟨b, 0, none⟩) n cap, .int .i64 i] w fun e w' => e = .returned (.tuple #[.int .i32 (ch l i.toNat), .int .i64 (cw l i.toNat)]) ∧ w = w' := by
  obtain ⟨i, rfl⟩ := Int.eq_ofNat_of_zero_le h0
  rw [Int.toNat_natCast]
  by_cases h : i < n
  · rw [cw_in (by rw [hB.len]; exact h)]
    have := ch_in hB.ascii (by rw [hB.len]; exact h)
    exact runeAt_nat b n cap i _ w h (hB.cell i h) this.1 this.2
  · have e1 : ch l i = -1 := ch_end (by rw [hB.len]; omega)
    have e2 : cw l i = 65533 := by unfold cw; rw [if_neg (by rw [hB.len]; omega)]
    rw [e1, e2]
    exact runeAt_end _ n cap _ w (by omega)
/-- At a place within. -/
theorem runeAt_in {w : World} {b n : Nat} {l : List UInt8} (hB : Body w b n l) (cap : Nat) (i : Int) (h0 : 0 ≤ i) (h : i < n) (c : Int) (hc : ch l i.toNat = c) :
    Calls Tryz.prog 155 #[.slice (some ⟨b, 0, none⟩) n cap, .int .i64 i] w fun e w' => e = .returned (.tuple #[.int .i32 c, .int .i64 1]) ∧ w = w' := by
  have := runeAt_any hB cap i h0
  rwa [hc, cw_in (by rw [hB.len]; omega)] at this

set_option maxHeartbeats 400000 in
theorem makeToken_any (k s t : Int) (v : ByteArray) (w : World) :
    Calls Tryz.prog 154 #[.int .i64 k, .int .i64 s, .int .i64 t, .string v] w fun e w' => e = .returned (.agg #[.int .i64 k, .int .i64 s, .int .i64 t, .string v]) ∧ w.alloc (.cells #[.int .i64 k, .int .i64 s, .int .i64 t, .string v] 52) = w' := by
  go_enter Tryz.func154, Tryz.ntmps154
  go_wp2
  go_returns
  exact ⟨rfl, rfl⟩

end Go.Proofs.YtannihddhebcpaaGreatDoor
