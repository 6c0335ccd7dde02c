/- THE REFERENCE: Lex over one token that adds nothing; sure9. THE LAWS' refused9. -/
import Derived.Test.YthmdgegaejanaaaGreatDoorSpecD
import Derived.Test.YthmdgegaejanaaaGreatDoorLawStrings
import Derived.Test.YthmdgegaejanaaaGreatDoorTokM
import Derived.Test.YthmdgegaejanaaaGreatDoorNumB
namespace Go.Proofs.YthmdgegaejanaaaGreatDoor
open Go.RowKit

set_option maxHeartbeats 1600000 in
set_option maxRecDepth 100000 in
/-- sure9, over what lexed says. -/
theorem sure_of (s : ByteArray) (out : Value) (ok sure : Bool) (h : ∀ w, Calls Tryz.prog 21 #[.string s] w fun x w' => x = .returned (.tuple #[out, .bool ok, .bool sure]) ∧ Below w.heap.size w w') (w : World) :
    Calls Tryz.prog 12 #[.string s] w fun x w' => x = .returned (.bool sure) ∧ Below w.heap.size w w' := by
  have HL : Hid (∀ w, Calls Tryz.prog 17 #[.string s] w fun x w' => (∃ o k, x = .returned (.tuple #[o, k, .bool sure])) ∧ Below w.heap.size w w') := fun w => by
    have H := Lib.hid h
    clear h
    cases ok
    all_goals
      go_enter Tryz.func17, Tryz.ntmps17
      go_wp2_with fail
      refine (H.out _).mono ?_
      rintro x w' ⟨rfl, hb⟩
      go_wp2_with fail
      go_ret3
      exact ⟨⟨_, _, rfl⟩, hb⟩
  clear h
  go_enter Tryz.func12, Tryz.ntmps12
  go_wp2_with fail
  refine (HL.out _).mono ?_
  rintro x w' ⟨⟨o, k, rfl⟩, hb⟩
  go_wp2_with fail
  go_ret
  exact ⟨rfl, hb⟩

def fineL : List UInt8 := [97, 32, 49, 32, 34, 98, 34]
theorem fine_lexed : Lexed fineL 0 [⟨15, 0, 1, ⟨#[97]⟩⟩, ⟨16, 2, 3, sub fineL 2 3⟩, ⟨18, 4, 7, sub fineL 5 6⟩] := by
  have e0 : ch fineL 0 = 97 := by decide
  have e1 : ch fineL 1 = 32 := by decide
  have e2 : ch fineL 2 = 49 := by decide
  have e3 : ch fineL 3 = 32 := by decide
  have e4 : ch fineL 4 = 34 := by decide
  have e5 : ch fineL 5 = 98 := by decide
  have e6 : ch fineL 6 = 34 := by decide
  have e7 : ch fineL 7 = -1 := by decide
  have hlen : fineL.length = 7 := by rfl
  refine .tok 0 _ _ ?_ rfl (.tok _ _ _ ?_ rfl (.tok _ _ _ ?_ rfl ?_))
  · have := tokAt_name (l := fineL) 0 0 1 (by omega) (skips_of e0 (by decide)) (by omega) (by omega) (fun j h1 h2 => by omega) (by rw [e1]; unfold NameChar; omega) (by rw [e0]; unfold NameStart; omega)
    exact this
  · intro W p b n cap hS hn
    have hl := hS.body.len
    exact tok_num hS hn 1 2 (by omega) (.white _ _ (by rw [e1]; unfold White; omega) (skips_of e2 (by decide))) 16 2 3 _ false 49 e2 (.inr (by omega))
      (fun W hS' => num_int hS' hn 2 3 (by omega) (by omega) (fun j h1 h2 => by obtain rfl : j = 2 := (by omega); rw [e2]; unfold Digit; omega) 49 e2 (by omega) 32 e3 (by omega) (by omega) (by omega) (by unfold Digit; omega))
  · exact tokAt_str (by omega) 3 4 6 (by omega) (.white _ _ (by rw [e3]; unfold White; omega) (skips_of e4 (by decide))) (by omega) (by omega) e4
      (fun j h1 h2 => by obtain rfl : j = 5 := (by omega); rw [e5]; unfold PlainAt; omega) e6 (.inl (by rw [e5]; omega))
  · exact .eof _ _ _ (tokAt_end _ (by show 7 ≤ _; omega) (.stop _ (by show ¬ White (ch fineL 7); rw [e7]; unfold White; omega) (by show ch fineL 7 ≠ 35; rw [e7]; omega)))

theorem fine_any (w : World) : Calls Tryz.prog 11 #[.string ⟨#[97, 32, 49, 32, 34, 98, 34]⟩] w fun x w' => (∃ A c, x = .returned (.tuple #[.slice A 3 c, .bool true])) ∧ Below w.heap.size w w' := by
  refine (tokens_ok ⟨#[97, 32, 49, 32, 34, 98, 34]⟩ _ (by intro c hc; revert c; decide) (by decide) fine_lexed (by decide) w).mono ?_
  rintro x w' ⟨A, c, rfl, _, hb⟩
  exact ⟨⟨A, c, rfl⟩, hb⟩

set_option maxHeartbeats 1600000 in
set_option maxRecDepth 100000 in
/-- refused9, where the text is refused. -/
theorem refused_yes (s : ByteArray) (h : ∀ w, Calls Tryz.prog 11 #[.string s] w fun x w' => x = .returned (.tuple #[.slice none 0 0, .bool false]) ∧ Below w.heap.size w w') (w : World) :
    Calls Tryz.prog 15 #[.string s] w fun x w' => x = .returned (.bool true) ∧ Below w.heap.size w w' := by
  have H := Lib.hid h
  clear h
  go_enter Tryz.func15, Tryz.ntmps15
  go_wp2_with fail
  refine (H.out _).mono ?_
  rintro x w1 ⟨rfl, hb⟩
  have HB := Lib.hid hb
  clear hb
  go_wp2_with fail
  refine (fine_any _).mono ?_
  rintro x w2 ⟨⟨A, c, rfl⟩, hb2⟩
  have HB2 := Lib.hid (HB.out.trans (hb2.mono HB.out.size))
  clear hb2
  go_wp2_with fail
  go_ret
  exact ⟨rfl, HB2.out⟩

end Go.Proofs.YthmdgegaejanaaaGreatDoor
