/- THE PARSER: advance. -/
import Derived.Test.YtannihddhebcpaaGreatDoorPsB
import Derived.StillTailTactics
import Derived.Deep.QuietTactic
import Derived.BigQuiet
import Derived.Deep.DeepCutAuto
import Derived.Deep.RegionLaw
import Derived.Deep.RegionLawGrows
namespace Go.Proofs.YtannihddhebcpaaGreatDoor
open Go.RowKit

set_option maxHeartbeats 3200000 in
set_option maxRecDepth 100000 in
theorem advance_any {W : World} {q g h p b n cap : Nat} {l : List UInt8} {i prev : Nat} {k : Int} {s e : Nat} {v : ByteArray} (H : Ps W q g h p b n cap l i prev k s e v) (hn : n ≤ 4611686018427387904) (he : 0 < e) {k2 : Int} {s2 e2 : Nat} {v2 : ByteArray} (hT : TokAt l e k2 s2 e2 v2) :
    Calls Tryz.prog 86 #[.pointer (some ⟨q, 0, none⟩)] W fun x w' => x = .returned .nilIface ∧ Ps w' q g h p b n cap l e2 e k2 s2 e2 v2 ∧ Keep q g W w' := by
  obtain ⟨c0, c1, c2, c3, c4, c5, c6, c7, c8⟩ := H.cells
  have f4 := Blk.frozen H.blk 4
  have hqg := H.gq
  have hlt := Blk.lt H.blk
  have h2 := H.hg
  have h3 := H.ph
  have h4 := H.bp
  have HN := Lib.hid (fun (W2 : World) (e : W.grownBy W2 (some q)) => next_at he hT (H.src.heap (w' := W2) e.size (e.block _ (by omega) (by intro e; injection e with e; omega)) (e.block _ (by omega) (by intro e; injection e with e; omega))) hn (H.vars.heap (w' := W2) e.size (e.block _ (by omega) (by intro e; injection e with e; omega)) (e.block _ (by omega) (by intro e; injection e with e; omega))))
  have HK := Lib.hid (only_setCell (p := ⟨q, 4, none⟩) (World.grownBy.refl W (some q)) (.inl rfl) (.int .i64 (e : Int)))
  have HB := Lib.hid (show Blk (W.setCell ⟨q, 4, none⟩ (.int .i64 (e : Int))) q 59 (pcells g h p e k s e v) from Blk.set_ H.blk 4 (.int .i64 (e : Int)))
  have hne : some q ≠ some g := by intro e; injection e with e; omega
  have hgs : g < (W.setCell ⟨q, 4, none⟩ (.int .i64 (e : Int))).heap.size := by simp [World.setCell]; omega
  have hsz : (W.setCell ⟨q, 4, none⟩ (.int .i64 (e : Int))).heap.size = W.heap.size := by simp [World.setCell]
  have HCA := Lib.hid (fun (w' : World) (kg : (W.setCell ⟨q, 4, none⟩ (.int .i64 (e : Int))).drew.grownBy w' (some g)) => Blk.grown (Blk.drew HB.out) kg hne)
  have HCB := Lib.hid (fun (w' : World) (kg : ((W.setCell ⟨q, 4, none⟩ (.int .i64 (e : Int))).alloc (.cells #[.int .i64 0, .int .i64 0, .int .i64 0, .string ⟨#[]⟩] 52)).drew.grownBy w' (some g)) => Blk.grown (Blk.drew (Blk.alloc HB.out _)) kg hne)
  have HXB := Lib.hid (fun (w' : World) (kg : ((W.setCell ⟨q, 4, none⟩ (.int .i64 (e : Int))).alloc (.cells #[.int .i64 0, .int .i64 0, .int .i64 0, .string ⟨#[]⟩] 52)).drew.grownBy w' (some g)) => show Blk w' W.heap.size 52 _ from hsz ▸ box_after kg hgs)
  have HKA := Lib.hid (only_drew1 HK.out)
  have HKB := Lib.hid (only_drew1 (only_alloc HK.out (.cells #[.int .i64 0, .int .i64 0, .int .i64 0, .string ⟨#[]⟩] 52)))
  clear hne hgs hsz HK HB
  have HP := Lib.hid H
  clear H hT
  go_enter Tryz.func86, Tryz.ntmps86
  go_upto_region 2 with fail
  go_cut [3, 4] (fun u v wx => ∃ z, u = .pointer (some ⟨z, 0, none⟩) ∧ v = .nilIface ∧ Hid (Got W wx q g h p z e k2 s2 e2 v2))
  case first =>
    go_region_with (first
      | (go_at_call 132; refine (HN.out _ HKA.out).mono ?_; rintro x w' ⟨rfl, k0, k1, kg⟩; have HC := Lib.hid (HCA.out _ kg); have HG := Lib.hid (And.intro k0 (And.intro k1 (And.intro HKA.out kg))); clear k0 k1 kg)
      | (go_at_call 132; refine (HN.out _ HKB.out).mono ?_; rintro x w' ⟨rfl, k0, k1, kg⟩; have HC := Lib.hid (HCB.out _ kg); have HX := Lib.hid (HXB.out _ kg); obtain ⟨x0, x1, x2, x3, xf⟩ := blk4 HX.out; have HG := Lib.hid (And.intro k0 (And.intro k1 (And.intro HKB.out kg))); clear k0 k1 kg))
    all_goals
      go_wp2_with fail
      go_meet
      first
        | exact ⟨_, rfl, rfl, Got.newBox HC.out HG.out (Nat.lt_trans hqg hlt)⟩
        | exact ⟨_, rfl, rfl, Got.oldBox HX.out HC.out HG.out (Nat.lt_trans hqg hlt) hlt⟩
  case rest =>
    obtain ⟨z, rfl, rfl, HA⟩ := hcut
    clear HN HCA HCB HXB HKA HKB c0 c1 c2 c3 c4 c5 c6 c7 c8 f4
    obtain ⟨x0, x1, x2, x3, xf⟩ := blk4 HA.out.tok
    obtain ⟨k0, s0, v0, hb⟩ := HA.out.blk
    have q5 : wc.cell? ⟨q, 5, none⟩ = some (.int .i64 k0) := by rw [Blk.cell hb]; rfl
    have q6 : wc.cell? ⟨q, 6, none⟩ = some (.int .i64 (s0 : Int)) := by rw [Blk.cell hb]; rfl
    have q7 : wc.cell? ⟨q, 7, none⟩ = some (.int .i64 (e : Int)) := by rw [Blk.cell hb]; rfl
    have q8 : wc.cell? ⟨q, 8, none⟩ = some (.string v0) := by rw [Blk.cell hb]; rfl
    have qf := fun j => Blk.frozen hb j
    clear hb
    go_wp2_with fail
    go_ret
    exact ⟨rfl, HP.out.ofGot HA.out⟩

end Go.Proofs.YtannihddhebcpaaGreatDoor
