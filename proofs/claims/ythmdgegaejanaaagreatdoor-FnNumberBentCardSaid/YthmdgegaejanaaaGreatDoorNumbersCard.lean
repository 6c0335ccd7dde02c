/- FnNumberBent returns true at every input: the row, and its card tied to the program's text (no condition but the three listed library variables). -/
import Derived.Test.YthmdgegaejanaaaGreatDoorCards
import Derived.Test.YthmdgegaejanaaaGreatDoorTie
import Derived.Test.YthmdgegaejanaaaGreatDoorWorld
import Derived.Test.YthmdgegaejanaaaGreatDoorNumbers
namespace Go.Proofs.YthmdgegaejanaaaGreatDoor
open Go.ChangeShapes Go.WideShapes Go.ChangeAt Go.RowKit Go.WideMaps Go.WideElems
open Go.ChangeMaps (open_string shut_string)

set_option maxRecDepth 100000 in
theorem numbers_contract (H : Type) (enc : TypeId × Value → H) (W : World) (base : Nat) (args : Array Value) (ds gs : List (DataW H)) (before : List MemPlace)
    (hval : ∀ (j : Nat) t v, Tryz.f6.params[j]? = some t → args[j]? = some v → Value.okWide Tryz.prog W .any base t v)
    (hW : DataW.Whole enc Tryz.prog Tryz.f6.params.toList Rows.fnNumberBentSpec.vars false W args.toList ds gs before) :
    Calls Tryz.prog 6 args W fun e W' => ∃ v, e = .returned v ∧ Rows.fnNumberBentSpec.post enc Tryz.prog Tryz.f6 false true false false W args v W' := by
  have hW' := hW
  obtain ⟨p, q, hA0, hV, rfl, hfz, hnd⟩ := hW
  have hA : DataW.TrodAll enc Tryz.prog W 0 (fun _ => true) true Tryz.f6.params.toList args.toList ds p := hA0
  rw [Tryz.params6] at hA hval
  obtain ⟨v0, v1, v2, d0, d1, d2, p0, p1, p2, rfl, rfl, rfl, h0, h1, h2⟩ := trodAll_three hA
  obtain ⟨rfl, rfl⟩ := trodVars_none hV
  obtain ⟨s0, rfl, rfl, rfl, z0⟩ := open_string Tryz.underlying9 (hval 0 9 v0 rfl rfl) h0
  obtain ⟨s1, rfl, rfl, rfl, z1⟩ := open_string Tryz.underlying9 (hval 1 9 v1 rfl rfl) h1
  obtain ⟨x2, rfl, rfl, rfl, z2⟩ := open_int Tryz.underlying5 (hval 2 5 v2 rfl rfl) h2
  have hb2 := bounds_u8 z2
  clear hA0
  simp only [List.append_nil] at hW'
  refine (numbers_any s0 s1 x2 (by omega) W).mono fun e W' ⟨he, hg⟩ => ?_
  subst he
  exact ⟨_, rfl, post_of_below (pa := []) (pv := []) hW' (fun _ _ _ => trodAll_cons_mk (shut_bool Tryz.underlying4 _) trodAll_mk0)
    (fun _ _ => trodAll_mk3 (shut_string Tryz.underlying9 z0) (shut_string Tryz.underlying9 z1) (shut_int Tryz.underlying5 z2)) (fun _ _ => rfl) rfl
    hg (ok_one (by kernel_rfl) rfl (okWide_bool_mk Tryz.underlying4 _))⟩

def numbersStart : Array Value := #[.string ⟨#[]⟩, .string ⟨#[]⟩, .int .u8 0]
theorem numbers_reads (os : Os) {H : Type} (enc : TypeId × Value → H) : ∃ places, DataW.whole enc Tryz.prog ((laidWorld os).forCall (fun _ _ => 0) ⟨#[], numbersStart, []⟩).memory Tryz.f6.params.toList Rows.fnNumberBentSpec.vars false numbersStart.toList 8 = some ([.lit (.string []), .lit (.string []), .lit (.int .u8 0)], [], places) :=
  ⟨[], by kernel_rfl⟩

set_option maxRecDepth 100000 in
theorem numbers_lifted (os : Os) (started : os.Started) (H : Type) (enc : TypeId × Value → H) (F : Stop.Interp) :
    ReturnsInHanded {} Tryz.checked os 6 .any ((OpenSpec.ofChange Rows.fnNumberBentSpec).preRow enc Tryz.prog Tryz.f6 Rows.fnNumberBentRow.domain false Rows.fnNumberBentRow.laid) (((OpenSpec.ofChange Rows.fnNumberBentSpec).at F).post enc Tryz.prog Tryz.f6 false true false false) := by
  obtain ⟨places, hx⟩ := numbers_reads os enc
  refine returnsInHanded_of_row (C := Tryz.checked) (s := OpenSpec.ofChange Rows.fnNumberBentSpec) own started (by kernel_rfl) Tryz.func6
    (witness_row_atRef (enc := enc) (C := Tryz.checked) false (laidWorld os) numbersStart rfl (by kernel_rfl) (by kernel_rfl) (by kernel_rfl)
      (OpenSpec.preRow_of_cond 8 hx (by kernel_rfl) (fun k hk => by cases hk) (by kernel_rfl) (laid_met os _))) ?_
  intro W base args ds gs before hval hW _ _ _ _ _ _
  exact numbers_contract H enc W base args ds gs before hval hW

theorem numbers_said : Rows.FnNumberBentSaid :=
  OpenClaim.holds_of_cond 6 Tryz.f6 rfl rfl rfl rfl rfl rfl rfl ⟨rfl, rfl, rfl, rfl, rfl⟩ rfl rfl rfl rfl rfl (by kernel_rfl) Tryz.func6 (by kernel_rfl)
    (of_decide_eq_true (by kernel_rfl)) (by unfold Func.isWrapper; first | (rw [if_pos (by decide +kernel)]; kernel_rfl) | (rw [if_neg (by decide +kernel)]; exact ⟨rfl, rfl⟩))
    (fun os started H enc _ F => by rw [OpenClaim.pre_eq_preRow]; exact numbers_lifted os started H enc F)

theorem numbers_plain (f : FuncId) (fn : Func) (hf : Tryz.pinned.checked.prog.funcNamed "given.example/pub-antiphonal/laws.FnNumberBent" = some f) (hfn : Tryz.pinned.checked.prog.funcs[f]? = some fn) :
    true = Tryz.pinned.checked.prog.looks [] ∧ ∀ (j : Nat) t, fn.params[j]? = some t → Tryz.pinned.checked.prog.wantsStandIn t = false := by
  obtain rfl : f = 6 := Option.some.inj ((show Tryz.prog.funcNamed "given.example/pub-antiphonal/laws.FnNumberBent" = some 6 by kernel_rfl).symm.trans hf) |>.symm
  obtain rfl : fn = Tryz.f6 := (Option.some.inj (Tryz.func6.symm.trans hfn)).symm
  refine ⟨by kernel_rfl, fun j t ht => ?_⟩
  rw [Tryz.params6] at ht
  have hm : t = 9 ∨ t = 5 := by simpa using Array.mem_of_getElem? ht
  rcases hm with rfl | rfl
  · exact (show Tryz.prog.wantsStandIn 9 = false by kernel_rfl)
  · exact (show Tryz.prog.wantsStandIn 5 = false by kernel_rfl)

theorem numbers_card : Rows.FnNumberBentCardSaid :=
  Claim7.holds_tied_plain_at .later [] _ _ _ _ numbers_said (fun _ h => by cases h) (by kernel_rfl) (fun _ h => by cases h) fnNumberBent_row_tie rfl ⟨rfl, rfl⟩ (by kernel_rfl) rfl numbers_plain (by kernel_rfl)
#print axioms numbers_card
end Go.Proofs.YthmdgegaejanaaaGreatDoor
