/- ESCAPES: the plain law: a backslash and a sign between quotation marks. -/
import Derived.Test.YthmdgegaejanaaaGreatDoorLawNumbers
import Derived.Test.YthmdgegaejanaaaGreatDoorSpecF
import Derived.Test.YthmdgegaejanaaaGreatDoorStrC
namespace Go.Proofs.YthmdgegaejanaaaGreatDoor
open Go.RowKit

/-- The text. -/
def escT (x : UInt8) : ByteArray := (⟨#[34, 92]⟩ : ByteArray) ++ (⟨#[x]⟩ : ByteArray) ++ (⟨#[34]⟩ : ByteArray)
theorem escT_list (x : UInt8) : (escT x).data.toList = [34, 92, x, 34] := by simp [escT]
theorem escT_size (x : UInt8) : (escT x).size = 4 := by rw [← len_data, escT_list]; rfl

theorem escT_clean (x : UInt8) (h0 : 32 ≤ (x.toNat : Int)) (h1 : (x.toNat : Int) ≤ 126) : Clean [34, 92, x, 34] :=
  clean_cons (by decide) (clean_cons (by decide) (clean_cons (by omega) (clean_cons (by decide) clean_nil)))

theorem escT_at (x : UInt8) : ch [34, 92, x, 34] 0 = 34 ∧ ch [34, 92, x, 34] 1 = 92 ∧ ch [34, 92, x, 34] 2 = (x.toNat : Int) ∧ ch [34, 92, x, 34] 3 = 34 ∧ ch [34, 92, x, 34] 4 = -1 := by
  refine ⟨?_, ?_, ?_, ?_, ?_⟩
  · rw [ch_zero]; rfl
  · rw [show (1 : Nat) = 0 + 1 by rfl, ch_cons, ch_zero]; rfl
  · rw [show (2 : Nat) = 0 + 1 + 1 by rfl, ch_cons, ch_cons, ch_zero]
  · rw [show (3 : Nat) = 0 + 1 + 1 + 1 by rfl, ch_cons, ch_cons, ch_cons, ch_zero]; rfl
  · rw [ch_end (by simp)]

/-- Which sign stands for which. -/
def EscTo (x m : UInt8) : Prop := (x = 98 ∧ m = 8) ∨ (x = 102 ∧ m = 12) ∨ (x = 110 ∧ m = 10) ∨ (x = 114 ∧ m = 13) ∨ (x = 116 ∧ m = 9) ∨ (x = 34 ∧ m = 34) ∨ (x = 92 ∧ m = 92) ∨ (x = 47 ∧ m = 47)

theorem esc_tokens (x m : UInt8) (h : EscTo x m) (W : World) :
    Calls Tryz.prog 11 #[.string (escT x)] W fun y w' =>
      ∃ g cap, y = .returned (.tuple #[.slice (some ⟨g, 0, none⟩) 1 cap, .bool true]) ∧ w'.cell? ⟨g, 0, none⟩ = some (.int .i64 18) ∧ w'.cell? ⟨g, 1, none⟩ = some (.string ⟨#[m]⟩) ∧ Below W.heap.size W w' := by
  obtain ⟨e0, e1, e2, e3, e4⟩ := escT_at x
  have hl : [34, 92, x, 34].length = 4 := rfl
  have ha : Ascii [34, 92, x, 34] := by
    rcases h with ⟨rfl, _⟩ | ⟨rfl, _⟩ | ⟨rfl, _⟩ | ⟨rfl, _⟩ | ⟨rfl, _⟩ | ⟨rfl, _⟩ | ⟨rfl, _⟩ | ⟨rfl, _⟩
    all_goals exact (escT_clean _ (by decide) (by decide)).ascii
  have hL : Lexed [34, 92, x, 34] 0 [⟨18, 0, 4, ⟨#[m]⟩⟩] := by
    refine .tok 0 _ _ ?_ rfl (.eof _ _ _ (tokAt_end _ (by show 4 ≤ _; rw [hl]; omega) (.stop _ (by show ¬ White (ch [34, 92, x, 34] 4); rw [e4]; unfold White; omega) (by show ch [34, 92, x, 34] 4 ≠ 35; rw [e4]; omega))))
    intro W p b n cap hS hn
    have hn4 : 4 = n := hS.body.len
    refine tok_string hS hn 0 0 (by omega) (skips_of e0 (by decide)) 18 0 4 _ false e0 (.inl (by rw [show 0 + 1 = 1 by rfl, e1]; omega)) (fun W hS' => ?_)
    rcases h with ⟨rfl, rfl⟩ | ⟨rfl, rfl⟩ | ⟨rfl, rfl⟩ | ⟨rfl, rfl⟩ | ⟨rfl, rfl⟩ | ⟨rfl, rfl⟩ | ⟨rfl, rfl⟩ | ⟨rfl, rfl⟩
    · exact str_esc98 hS' (by omega) (by omega) e1 e2 e3
    · exact str_esc102 hS' (by omega) (by omega) e1 e2 e3
    · exact str_esc110 hS' (by omega) (by omega) e1 e2 e3
    · exact str_esc114 hS' (by omega) (by omega) e1 e2 e3
    · exact str_esc116 hS' (by omega) (by omega) e1 e2 e3
    · exact str_esc34 hS' (by omega) (by omega) e1 e2 e3
    · exact str_esc92 hS' (by omega) (by omega) e1 e2 e3
    · exact str_esc47 hS' (by omega) (by omega) e1 e2 e3
  rw [← escT_list] at ha hL
  refine (tokens_ok _ _ ha (by rw [escT_size]; omega) hL (by rw [escT_size]; simp) W).mono ?_
  rintro y w' ⟨A, cap, rfl, hown, hb⟩
  obtain ⟨g, cap', hv⟩ := Joins.ownsRow_form hown (by simp)
  rw [hv] at hown
  injection hv with hA hl hcap
  subst hA
  refine ⟨g, cap, rfl, ?_, ?_, hb⟩
  · rw [hown.cellAt 0 (by simp)]
    simp [flat, Tk.cells]
  · rw [hown.cellAt 1 (by simp)]
    simp [flat, Tk.cells]

/-- Another sign: both refuse. -/
theorem esc_bend (x : UInt8) (h0 : 32 ≤ (x.toNat : Int)) (h1 : (x.toNat : Int) ≤ 126) (hx : ¬ Escaped (x.toNat : Int)) : Bend (escT x) := by
  obtain ⟨e0, e1, e2, e3, e4⟩ := escT_at x
  have hc := escT_clean x h0 h1
  have hz := escT_size x
  rw [← escT_list] at hc e0 e1 e2
  refine bend_of _ hc (by omega) (by omega) ?_ ?_
  · intro W p b n cap hS hn
    have hl : n = 4 := by rw [← hS.body.len, len_data, hz]
    exact tok_string hS hn 0 0 (by omega) (skips_of e0 (by decide)) 0 0 0 _ true e0 (.inl (by rw [show 0 + 1 = 1 by rfl, e1]; omega)) (fun W hS' => str_escBad hS' hc.noEnds (by omega) (by omega) _ e1 e2 hx)
  · intro w g hl
    exact token_text hl (by omega) (by omega) e0 1 (by omega) (by rw [show 0 + 1 = 1 by rfl, e1]; omega) (fun W hW => text_esc hW (by omega) (by omega) e1 _ e2 hx)

set_option maxHeartbeats 1600000 in
set_option maxRecDepth 100000 in
/-- only9, where there is just this token. -/
theorem only_yes (s v : ByteArray) (k : Int) (h : ∀ W, Calls Tryz.prog 11 #[.string s] W fun y w' => ∃ g cap, y = .returned (.tuple #[.slice (some ⟨g, 0, none⟩) 1 cap, .bool true]) ∧ w'.cell? ⟨g, 0, none⟩ = some (.int .i64 k) ∧ w'.cell? ⟨g, 1, none⟩ = some (.string v) ∧ Below W.heap.size W w') (w : World) :
    Calls Tryz.prog 14 #[.string s, .int .i64 k, .string v] w fun y w' => y = .returned (.bool true) ∧ Below w.heap.size w w' := by
  have H := Lib.hid h
  clear h
  go_enter Tryz.func14, Tryz.ntmps14
  go_wp2_with fail
  refine (H.out _).mono ?_
  rintro y w' ⟨g, cap, rfl, k0, k1, hb⟩
  have HB := Lib.hid hb
  clear hb
  go_wp2_with fail
  go_ret
  exact ⟨rfl, HB.out⟩

end Go.Proofs.YthmdgegaejanaaaGreatDoor
