/- FnPartMembers returns true at every input: the row, and its card tied to the program's text (no condition but the three listed library variables). -/
import Derived.Test.YtannihddhebcpaaGreatDoorCards
import Derived.Test.YtannihddhebcpaaGreatDoorTie
import Derived.Test.YtannihddhebcpaaGreatDoorWorld
import Derived.Test.YtannihddhebcpaaGreatDoorPsS
import Derived.Carry
import Derived.SliceStrings
namespace Go.Proofs.YtannihddhebcpaaGreatDoor
open Go.ChangeShapes Go.WideShapes Go.ChangeAt Go.RowKit Go.WideMaps Go.WideElems
open Go.ChangeMaps (open_string shut_string)

theorem laidOut_ : laidOutB Tryz.prog = true := by kernel_rfl
theorem cells9_ : Tryz.prog.cellsOf 9 = 1 := by kernel_rfl
theorem reads22 : Tryz.prog.readableRec 22 = true := by kernel_rfl
theorem row22 : 22 < Tryz.prog.types.size := of_decide_eq_true (by kernel_rfl)

set_option maxRecDepth 100000 in
theorem members_contract (H : Type) (enc : TypeId × Value → H) (W : World) (base : Nat) (args : Array Value) (ds gs : List (DataW H)) (before : List MemPlace)
    (hval : ∀ (j : Nat) t v, Tryz.f3.params[j]? = some t → args[j]? = some v → Value.okWide Tryz.prog W .any base t v)
    (hW : DataW.Whole enc Tryz.prog Tryz.f3.params.toList Rows.fnPartMembersSpec.vars false W args.toList ds gs before) :
    Calls Tryz.prog 3 args W fun e W' => ∃ v, e = .returned v ∧ Rows.fnPartMembersSpec.post enc Tryz.prog Tryz.f3 false true false false W args v W' := by
  have hW' := hW
  obtain ⟨p, q, hA0, hV, rfl, hfz, hnd⟩ := hW
  have hA : DataW.TrodAll enc Tryz.prog W 0 (fun _ => true) true Tryz.f3.params.toList args.toList ds p := hA0
  rw [Tryz.params3] at hA hval
  obtain ⟨v0, d0, rfl, rfl, h0⟩ := trodAll_one hA
  obtain ⟨rfl, rfl⟩ := trodVars_none hV
  obtain ⟨a0, len, cap, rfl⟩ := okWide_slice Tryz.underlying22 (hval 0 22 v0 rfl rfl)
  have h0k := h0
  obtain ⟨fuel, hf⟩ := h0
  clear hA0
  simp only [List.append_nil] at hW'
  have hlt : ∀ x ∈ p, x.block < W.heap.size := fun x hx => hW'.lt x hx
  have fin : ∀ (e : Ending) (W' : World), e = .returned (.bool true) ∧ Below W.heap.size W W' → ∃ v, e = .returned v ∧ Rows.fnPartMembersSpec.post enc Tryz.prog Tryz.f3 false true false false W #[.slice a0 len cap] v W' := by
    rintro e W' ⟨rfl, hg⟩
    exact ⟨_, rfl, post_of_below (pa := p) (pv := []) hW' (fun _ _ _ => trodAll_cons_mk (shut_bool Tryz.underlying4 _) trodAll_mk0)
      (fun sp hsp => by
        have t0 := WideElems.Trod_stays laidOut_ reads22 row22 h0k (fun x hx => hg.same (hlt x hx)) hsp
        have t1 := trodAll_cons_mk t0 trodAll_mk0
        rw [List.append_nil] at t1
        exact t1) (fun _ _ => rfl) (by simp)
      hg (ok_one (by kernel_rfl) rfl (okWide_bool_mk Tryz.underlying4 _))⟩
  rcases open_strings Tryz.underlying22 Tryz.underlying9 cells9_ hf with ⟨hcs, hx⟩ | ⟨a, len', cap', ss, hcs, _, hl, hm, hz, hx, hcell, hws⟩
  · simp [Value.cells] at hcs
    obtain ⟨rfl, rfl, rfl⟩ := hcs
    exact (law_any (W := W) (A := none) (b := 0) (o := 0) (n := 0) (cap := 0) (f := fun _ => ⟨#[]⟩) ⟨fun h => by omega, fun i hi => by omega, by omega⟩ (fun h => by omega)).mono fin
  · simp [Value.cells] at hcs
    obtain ⟨rfl, rfl, rfl⟩ := hcs
    simp only [if_true] at hz
    obtain ⟨xb, xo, spot⟩ := a
    refine (law_any (W := W) (b := xb) (o := xo) (n := len) (f := fun i => ss.getD i ByteArray.empty) ⟨fun h => ?_, fun i hi => ?_, hl⟩ (fun h => ?_)).mono fin
    · have hspot : spot = none := by simpa [Addr.add] using World.cell?_spot (hcell 0 (by omega))
      rw [hspot]
    · have hspot : spot = none := by simpa [Addr.add] using World.cell?_spot (hcell 0 (by omega))
      subst hspot
      have := hcell i (by omega)
      rwa [Lib.addr_add] at this
    · have hk := hlt (MemPlace.cell xb (xo + 0)) (by
        simp only [Prod.mk.injEq] at hx
        rw [hx.2]
        simp only [MemPlace.row, List.mem_map, List.mem_range]
        exact ⟨0, by omega, rfl⟩)
      exact hk

def membersStart : Array Value := #[.slice none 0 0]
theorem members_reads (os : Os) {H : Type} (enc : TypeId × Value → H) : ∃ places, DataW.whole enc Tryz.prog ((laidWorld os).forCall (fun _ _ => 0) ⟨#[], membersStart, []⟩).memory Tryz.f3.params.toList Rows.fnPartMembersSpec.vars false membersStart.toList 8 = some ([.nil], [], places) :=
  ⟨[], by kernel_rfl⟩

set_option maxRecDepth 100000 in
theorem members_lifted (os : Os) (started : os.Started) (H : Type) (enc : TypeId × Value → H) (F : Stop.Interp) :
    ReturnsInHanded {} Tryz.checked os 3 .any ((OpenSpec.ofChange Rows.fnPartMembersSpec).preRow enc Tryz.prog Tryz.f3 Rows.fnPartMembersRow.domain false Rows.fnPartMembersRow.laid) (((OpenSpec.ofChange Rows.fnPartMembersSpec).at F).post enc Tryz.prog Tryz.f3 false true false false) := by
  obtain ⟨places, hx⟩ := members_reads os enc
  refine returnsInHanded_of_row (C := Tryz.checked) (s := OpenSpec.ofChange Rows.fnPartMembersSpec) own started (by kernel_rfl) Tryz.func3
    (witness_row_atRef (enc := enc) (C := Tryz.checked) false (laidWorld os) membersStart rfl (by kernel_rfl) (by kernel_rfl) (by kernel_rfl)
      (OpenSpec.preRow_of_cond 8 hx (by kernel_rfl) (fun k hk => by cases hk) (by kernel_rfl) (laid_met os _))) ?_
  intro W base args ds gs before hval hW _ _ _ _ _ _
  exact members_contract H enc W base args ds gs before hval hW

theorem members_said : Rows.FnPartMembersSaid :=
  OpenClaim.holds_of_cond 3 Tryz.f3 rfl rfl rfl rfl rfl rfl rfl ⟨rfl, rfl, rfl, rfl, rfl⟩ rfl rfl rfl rfl rfl (by kernel_rfl) Tryz.func3 (by kernel_rfl)
    (of_decide_eq_true (by kernel_rfl)) (by unfold Func.isWrapper; first | (rw [if_pos (by decide +kernel)]; kernel_rfl) | (rw [if_neg (by decide +kernel)]; exact ⟨rfl, rfl⟩))
    (fun os started H enc _ F => by rw [OpenClaim.pre_eq_preRow]; exact members_lifted os started H enc F)

theorem members_plain (f : FuncId) (fn : Func) (hf : Tryz.pinned.checked.prog.funcNamed "given.example/pub-antiphonal/laws.FnPartMembers" = some f) (hfn : Tryz.pinned.checked.prog.funcs[f]? = some fn) :
    true = Tryz.pinned.checked.prog.looks [] ∧ ∀ (j : Nat) t, fn.params[j]? = some t → Tryz.pinned.checked.prog.wantsStandIn t = false := by
  obtain rfl : f = 3 := Option.some.inj ((show Tryz.prog.funcNamed "given.example/pub-antiphonal/laws.FnPartMembers" = some 3 by kernel_rfl).symm.trans hf) |>.symm
  obtain rfl : fn = Tryz.f3 := (Option.some.inj (Tryz.func3.symm.trans hfn)).symm
  refine ⟨by kernel_rfl, fun j t ht => ?_⟩
  rw [Tryz.params3] at ht
  have hm : t = 22 := by simpa using Array.mem_of_getElem? ht
  subst hm
  exact (show Tryz.prog.wantsStandIn 22 = false by kernel_rfl)

theorem members_card : Rows.FnPartMembersCardSaid :=
  Claim7.holds_tied_plain_at .later [] _ _ _ _ members_said (fun _ h => by cases h) (by kernel_rfl) (fun _ h => by cases h) fnPartMembers_row_tie rfl ⟨rfl, rfl⟩ (by kernel_rfl) rfl members_plain (by kernel_rfl)
#print axioms members_card
end Go.Proofs.YtannihddhebcpaaGreatDoor
