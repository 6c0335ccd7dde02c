/- FnSigns returns true at every input: the row, and its card tied to the program's text (no condition but the three listed library variables). -/
import Derived.Test.YthmdgegaejanaaaGreatDoorCards
import Derived.Test.YthmdgegaejanaaaGreatDoorTie
import Derived.Test.YthmdgegaejanaaaGreatDoorWorld
import Derived.Test.YthmdgegaejanaaaGreatDoorSigns
namespace Go.Proofs.YthmdgegaejanaaaGreatDoor
open Go.ChangeShapes Go.WideShapes Go.ChangeAt Go.RowKit Go.WideMaps Go.WideElems
open Go.ChangeMaps (open_string shut_string)

set_option maxRecDepth 100000 in
theorem signs_contract (H : Type) (enc : TypeId × Value → H) (W : World) (base : Nat) (args : Array Value) (ds gs : List (DataW H)) (before : List MemPlace)
    (hval : ∀ (j : Nat) t v, Tryz.f7.params[j]? = some t → args[j]? = some v → Value.okWide Tryz.prog W .any base t v)
    (hW : DataW.Whole enc Tryz.prog Tryz.f7.params.toList Rows.fnSignsSpec.vars false W args.toList ds gs before) :
    Calls Tryz.prog 7 args W fun e W' => ∃ v, e = .returned v ∧ Rows.fnSignsSpec.post enc Tryz.prog Tryz.f7 false true false false W args v W' := by
  have hW' := hW
  obtain ⟨p, q, hA0, hV, rfl, hfz, hnd⟩ := hW
  have hA : DataW.TrodAll enc Tryz.prog W 0 (fun _ => true) true Tryz.f7.params.toList args.toList ds p := hA0
  rw [Tryz.params7] at hA hval
  obtain ⟨v0, d0, rfl, rfl, h0⟩ := trodAll_one hA
  obtain ⟨rfl, rfl⟩ := trodVars_none hV
  obtain ⟨x0, rfl, rfl, rfl, z0⟩ := open_int Tryz.underlying5 (hval 0 5 v0 rfl rfl) h0
  have hb0 := bounds_u8 z0
  clear hA0
  simp only [List.append_nil] at hW'
  refine (signs_any x0 (by omega) W).mono fun e W' ⟨he, hg⟩ => ?_
  subst he
  exact ⟨_, rfl, post_of_below (pa := []) (pv := []) hW' (fun _ _ _ => trodAll_cons_mk (shut_bool Tryz.underlying4 _) trodAll_mk0)
    (fun _ _ => trodAll_mk1 (shut_int Tryz.underlying5 z0)) (fun _ _ => rfl) rfl
    hg (ok_one (by kernel_rfl) rfl (okWide_bool_mk Tryz.underlying4 _))⟩

def signsStart : Array Value := #[.int .u8 0]
theorem signs_reads (os : Os) {H : Type} (enc : TypeId × Value → H) : ∃ places, DataW.whole enc Tryz.prog ((laidWorld os).forCall (fun _ _ => 0) ⟨#[], signsStart, []⟩).memory Tryz.f7.params.toList Rows.fnSignsSpec.vars false signsStart.toList 8 = some ([.lit (.int .u8 0)], [], places) :=
  ⟨[], by kernel_rfl⟩

set_option maxRecDepth 100000 in
theorem signs_lifted (os : Os) (started : os.Started) (H : Type) (enc : TypeId × Value → H) (F : Stop.Interp) :
    ReturnsInHanded {} Tryz.checked os 7 .any ((OpenSpec.ofChange Rows.fnSignsSpec).preRow enc Tryz.prog Tryz.f7 Rows.fnSignsRow.domain false Rows.fnSignsRow.laid) (((OpenSpec.ofChange Rows.fnSignsSpec).at F).post enc Tryz.prog Tryz.f7 false true false false) := by
  obtain ⟨places, hx⟩ := signs_reads os enc
  refine returnsInHanded_of_row (C := Tryz.checked) (s := OpenSpec.ofChange Rows.fnSignsSpec) own started (by kernel_rfl) Tryz.func7
    (witness_row_atRef (enc := enc) (C := Tryz.checked) false (laidWorld os) signsStart rfl (by kernel_rfl) (by kernel_rfl) (by kernel_rfl)
      (OpenSpec.preRow_of_cond 8 hx (by kernel_rfl) (fun k hk => by cases hk) (by kernel_rfl) (laid_met os _))) ?_
  intro W base args ds gs before hval hW _ _ _ _ _ _
  exact signs_contract H enc W base args ds gs before hval hW

theorem signs_said : Rows.FnSignsSaid :=
  OpenClaim.holds_of_cond 7 Tryz.f7 rfl rfl rfl rfl rfl rfl rfl ⟨rfl, rfl, rfl, rfl, rfl⟩ rfl rfl rfl rfl rfl (by kernel_rfl) Tryz.func7 (by kernel_rfl)
    (of_decide_eq_true (by kernel_rfl)) (by unfold Func.isWrapper; first | (rw [if_pos (by decide +kernel)]; kernel_rfl) | (rw [if_neg (by decide +kernel)]; exact ⟨rfl, rfl⟩))
    (fun os started H enc _ F => by rw [OpenClaim.pre_eq_preRow]; exact signs_lifted os started H enc F)

theorem signs_plain (f : FuncId) (fn : Func) (hf : Tryz.pinned.checked.prog.funcNamed "given.example/pub-antiphonal/laws.FnSigns" = some f) (hfn : Tryz.pinned.checked.prog.funcs[f]? = some fn) :
    true = Tryz.pinned.checked.prog.looks [] ∧ ∀ (j : Nat) t, fn.params[j]? = some t → Tryz.pinned.checked.prog.wantsStandIn t = false := by
  obtain rfl : f = 7 := Option.some.inj ((show Tryz.prog.funcNamed "given.example/pub-antiphonal/laws.FnSigns" = some 7 by kernel_rfl).symm.trans hf) |>.symm
  obtain rfl : fn = Tryz.f7 := (Option.some.inj (Tryz.func7.symm.trans hfn)).symm
  refine ⟨by kernel_rfl, fun j t ht => ?_⟩
  rw [Tryz.params7] at ht
  have hm : t = 5 := by simpa using Array.mem_of_getElem? ht
  subst hm
  exact (show Tryz.prog.wantsStandIn 5 = false by kernel_rfl)

theorem signs_card : Rows.FnSignsCardSaid :=
  Claim7.holds_tied_plain_at .later [] _ _ _ _ signs_said (fun _ h => by cases h) (by kernel_rfl) (fun _ h => by cases h) fnSigns_row_tie rfl ⟨rfl, rfl⟩ (by kernel_rfl) rfl signs_plain (by kernel_rfl)
#print axioms signs_card
end Go.Proofs.YthmdgegaejanaaaGreatDoor
