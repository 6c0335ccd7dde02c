/- THE THIN PACKAGE: part (a named type is taken), partName. -/
import Derived.Test.YtannihddhebcpaaGreatDoorPsM
namespace Go.Proofs.YtannihddhebcpaaGreatDoor
open Go.RowKit

set_option maxHeartbeats 1600000 in
set_option maxRecDepth 100000 in
theorem partName_any (w : World) : Calls Tryz.prog 9 #[.int .i64 33] w fun x w' => x = .returned (.string ⟨#[109, 101, 109, 98, 101, 114, 115]⟩) ∧ w = w' := by
  go_enter Tryz.func9, Tryz.ntmps9
  go_wp2_with fail
  go_ret
  exact ⟨rfl, rfl⟩

theorem ta60 (a : Option Addr) (w : World) : (Instr.typeAssert (.iface 74 (.pointer a)) 20 60 true).run Tryz.prog w = .ok (.tuple #[.pointer none, .bool false]) w := by kernel_rfl
theorem ta63 (a : Option Addr) (w : World) : (Instr.typeAssert (.iface 74 (.pointer a)) 20 63 true).run Tryz.prog w = .ok (.tuple #[.pointer none, .bool false]) w := by kernel_rfl
theorem ta66 (a : Option Addr) (w : World) : (Instr.typeAssert (.iface 74 (.pointer a)) 20 66 true).run Tryz.prog w = .ok (.tuple #[.pointer none, .bool false]) w := by kernel_rfl
theorem ta69 (a : Option Addr) (w : World) : (Instr.typeAssert (.iface 74 (.pointer a)) 20 69 true).run Tryz.prog w = .ok (.tuple #[.pointer none, .bool false]) w := by kernel_rfl
theorem ta71 (a : Option Addr) (w : World) : (Instr.typeAssert (.iface 74 (.pointer a)) 20 71 true).run Tryz.prog w = .ok (.tuple #[.pointer none, .bool false]) w := by kernel_rfl
theorem ta74 (a : Option Addr) (w : World) : (Instr.typeAssert (.iface 74 (.pointer a)) 20 74 true).run Tryz.prog w = .ok (.tuple #[.pointer a, .bool true]) w := by kernel_rfl

set_option maxHeartbeats 3200000 in
set_option maxRecDepth 100000 in
theorem take_any {W : World} {B t : Nat} {A : Option Addr} {c : Nat} {A2 : Option Addr} {c2 n : Nat} {ds ss : List Value} (T : Tak W B t A c A2 c2 n n ds ss) {B0 p m s e : Nat} {v : ByteArray} (hN : NamedAt W B0 p m s e v) (k : Int) (hn : n ≤ 2000) :
    Calls Tryz.prog 12 #[.pointer (some ⟨t, 0, none⟩), .iface 74 (.pointer (some ⟨m, 0, none⟩)), .int .i64 k] W fun x w' => x = .returned (.tuple #[]) ∧ ∃ A' c' A2' c2' ss', Tak w' B t A' c' A2' c2' (n + 1) (n + 1) (ds ++ node1 k v) ss' ∧ Below t W w' := by
  have ht := T.tB
  have hBW := T.hB
  have htl : t ≤ W.heap.size := by omega
  have hb : Below W.heap.size W ((W.alloc (.cells #[.pointer (some ⟨t, 0, none⟩)] 40)).drew) := ((Below.refl W.heap.size W).alloc (Nat.le_refl _) _).drew
  have hN2 := hN.mono (below_blk hb)
  obtain ⟨cl, d, _, _, b1, b2, _⟩ := hN2.blk
  obtain ⟨m0, m1, m2, mf⟩ := blk3 b1
  have HON := Lib.hid (on_any hN2)
  have HPU := Lib.hid (put_any (T.below hb) b2 k v hn)
  have HB := Lib.hid (hb.mono htl)
  obtain ⟨cl', d', _, _, b1', b2', _⟩ := hN.blk
  obtain ⟨n0, n1, n2, nf⟩ := blk3 b1'
  have hml := Blk.lt b1'
  clear T hN hN2 hb b1 b2 b1' b2'
  have x60 := ta60 (some ⟨m, 0, none⟩)
  have x63 := ta63 (some ⟨m, 0, none⟩)
  have x66 := ta66 (some ⟨m, 0, none⟩)
  have x69 := ta69 (some ⟨m, 0, none⟩)
  have x71 := ta71 (some ⟨m, 0, none⟩)
  have x74 := ta74 (some ⟨m, 0, none⟩)
  go_enter Tryz.func12, Tryz.ntmps12
  go_upto_region 21 with fail
  go_region_with (first
    | (go_at_call 20; refine HON.out.mono ?_; rintro x w' ⟨rfl, rfl⟩)
    | (go_at_call 19; refine HPU.out.mono ?_; rintro x w' ⟨rfl, A', c', A2', c2', ss', hT, hb⟩; have HR := Lib.hid (And.intro hT hb); clear hT hb))
  all_goals
    go_wp2_with fail
    go_returns
    exact ⟨rfl, _, _, _, _, _, HR.out.1, HB.out.trans (HR.out.2.mono (Nat.le_refl _))⟩

end Go.Proofs.YtannihddhebcpaaGreatDoor
