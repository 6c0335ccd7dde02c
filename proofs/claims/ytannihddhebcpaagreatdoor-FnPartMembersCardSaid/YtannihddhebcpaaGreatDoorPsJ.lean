/- THE PARSER's DOORS: begin (a text is turned into bytes, the parser holds its first token). -/
import Derived.Test.YtannihddhebcpaaGreatDoorPsI
import Derived.Lib.ConvBytes
import Derived.Lib.AtoiErrMem
namespace Go.Proofs.YtannihddhebcpaaGreatDoor
open Go.RowKit

set_option maxHeartbeats 3200000 in
set_option maxRecDepth 100000 in
/-- begin: the parser over a text. -/
theorem begin_any (s : ByteArray) (ha : Ascii s.data.toList) (hn : s.size ≤ 2199023255552) {k2 : Int} {s2 e2 : Nat} {v2 : ByteArray} (hT : TokAt s.data.toList 0 k2 s2 e2 v2) (w : World) :
    Calls Tryz.prog 13 #[.string s] w fun x w' => ∃ q g h p b cap i, x = .returned (.tuple #[.pointer (some ⟨q, 0, none⟩), .nilIface]) ∧ Ps w' q g h p b s.size cap s.data.toList i 0 k2 s2 e2 v2 ∧ w.heap.size ≤ b ∧ Below w.heap.size w w' := by
  have hcv := Lib.run_convert_string_bytes (P := Tryz.prog) w 9 102 5 s (u := .string) Tryz.underlying9 Tryz.underlying102 Tryz.underlying5
  have hC := conv_bytes w s ha
  generalize grownCap w s.size 0 5 = cap at hcv hC
  generalize Lib.bytesWorld w 5 s = W0 at hcv hC
  have hs0 := hC.size
  have hlt : w.heap.size < W0.heap.size := by rw [hs0]; exact Nat.lt_succ_self _
  have hn2 : s.size ≤ 4611686018427387904 := Nat.le_trans hn (by decide)
  clear hs0
  have hb1 := (Below.refl W0.heap.size W0).alloc (Nat.le_refl _) (.cells #[.slice (some ⟨w.heap.size, 0, none⟩) s.size cap, .string ⟨#[71, 114, 97, 112, 104, 81, 76]⟩] 104)
  have hS : Src (W0.alloc (.cells #[.slice (some ⟨w.heap.size, 0, none⟩) s.size cap, .string ⟨#[71, 114, 97, 112, 104, 81, 76]⟩] 104)) W0.heap.size w.heap.size s.size cap s.data.toList :=
    ⟨hC.body.below hb1, by simp, by rw [World.cell?_alloc_at _ _ _ _ rfl]; rfl, hC.cap⟩
  have HM := Lib.hid (makeParser_any hS hlt hn2 hT)
  have HB := Lib.hid (hC.below.trans (hb1.mono (Nat.le_of_lt hlt)))
  clear hS hb1 hC hT hn2 hlt
  go_enter Tryz.func13, Tryz.ntmps13
  go_wp2_with (go_at_call 28; refine (source_new _ _).mono ?_; rintro x w' ⟨rfl, rfl⟩)
  refine HM.out.mono ?_
  rintro x W1 ⟨q, g, h, i, rfl, hp, _, hb⟩
  have HP := Lib.hid hp
  have HB2 := Lib.hid (HB.out.trans (hb.mono HB.out.size))
  clear hp hb HM
  go_wp2_with fail
  go_ret2
  exact ⟨q, g, h, _, _, cap, i, rfl, HP.out, Nat.le_refl _, HB2.out⟩

end Go.Proofs.YtannihddhebcpaaGreatDoor
