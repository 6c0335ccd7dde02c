/- SIGNS: the plain law: what one byte of ASCII is to both lexers. -/
import Derived.Test.YthmdgegaejanaaaGreatDoorLawEscapes
import Derived.Test.YthmdgegaejanaaaGreatDoorSpecI
import Derived.Test.YthmdgegaejanaaaGreatDoorSpecJ
import Derived.Test.YthmdgegaejanaaaGreatDoorStrD
import Derived.Test.YthmdgegaejanaaaGreatDoorTokP
namespace Go.Proofs.YthmdgegaejanaaaGreatDoor
open Go.RowKit

def oneT (x : UInt8) : ByteArray := ⟨#[x]⟩
theorem one_list (x : UInt8) : (oneT x).data.toList = [x] := rfl
theorem one_size (x : UInt8) : (oneT x).size = 1 := rfl
theorem one_at (x : UInt8) : ch [x] 0 = (x.toNat : Int) ∧ ch [x] 1 = -1 := ⟨ch_zero _ _, ch_end (by simp)⟩

/-- The tokens are none. -/
structure None_ (s : ByteArray) : Prop where
  want : ∀ w, Calls Tryz.prog 21 #[.string s] w fun y w' => y = .returned (.tuple #[.slice none 0 0, .bool true, .bool true]) ∧ Below w.heap.size w w'
  have_ : ∀ w, Calls Tryz.prog 11 #[.string s] w fun y w' => (∃ A c, y = .returned (.tuple #[.slice A 0 c, .bool true])) ∧ Below w.heap.size w w'
/-- Both refuse. -/
structure Refuse_ (s : ByteArray) : Prop where
  want : ∀ w, Calls Tryz.prog 21 #[.string s] w fun y w' => y = .returned (.tuple #[.slice none 0 0, .bool false, .bool true]) ∧ Below w.heap.size w w'
  have_ : ∀ w, Calls Tryz.prog 11 #[.string s] w fun y w' => y = .returned (.tuple #[.slice none 0 0, .bool false]) ∧ Below w.heap.size w w'
/-- The tokens are one, the same. -/
structure Single_ (s : ByteArray) (k : Int) (v : ByteArray) : Prop where
  want : ∀ w, Calls Tryz.prog 21 #[.string s] w fun y w' => (∃ r cap, y = .returned (.tuple #[.slice (some ⟨r, 0, none⟩) 1 cap, .bool true, .bool true]) ∧ r < w'.heap.size ∧ w'.cell? ⟨r, 0, none⟩ = some (.int .i64 k) ∧ w'.cell? ⟨r, 1, none⟩ = some (.string v)) ∧ Below w.heap.size w w'
  have_ : ∀ w, Calls Tryz.prog 11 #[.string s] w fun y w' => (∃ r cap, y = .returned (.tuple #[.slice (some ⟨r, 0, none⟩) 1 cap, .bool true]) ∧ r < w'.heap.size ∧ w'.cell? ⟨r, 0, none⟩ = some (.int .i64 k) ∧ w'.cell? ⟨r, 1, none⟩ = some (.string v)) ∧ Below w.heap.size w w'

theorem one_ascii (x : UInt8) (h : (x.toNat : Int) < 128) : Ascii (oneT x).data.toList := by
  rw [one_list]
  exact ascii_of fun i hi => by
    obtain rfl : i = 0 := by simpa using hi
    rw [(one_at x).1]; exact h

theorem none_of (x : UInt8) (h : (x.toNat : Int) < 128) (hs : Skips [x] 0 1) (hT : Token1 (oneT x) 1 false false) : None_ (oneT x) := by
  refine ⟨fun w => lexed_one _ 1 false false hT (by rw [one_size]; omega) (.inr (by rw [one_size]; omega)) w, fun w => ?_⟩
  refine (tokens_ok (oneT x) [] (one_ascii x h) (by rw [one_size]; omega) (.eof _ _ _ (tokAt_end 0 (by simp) hs)) (by simp) w).mono ?_
  rintro y w' ⟨A, c, rfl, _, hb⟩
  exact ⟨⟨A, c, rfl⟩, hb⟩

theorem refuse_of (x : UInt8) (h : (x.toNat : Int) < 128) (hE : ErrAt [x] 0) (hT : Token1 (oneT x) 0 true false) : Refuse_ (oneT x) :=
  ⟨fun w => lexed_one _ 0 true false hT (by rw [one_size]; omega) (.inl rfl) w, fun w => tokens_bad (oneT x) [] (one_ascii x h) (by rw [one_size]; omega) (.bad 0 hE) (by simp) w⟩

theorem single_of (x : UInt8) (k : Int) (v : ByteArray) (h : (x.toNat : Int) < 128) (hk : (k == 1) = false) (hE : TokAt [x] 0 k 0 1 v) (hT : Token2 (oneT x) k v) : Single_ (oneT x) k v := by
  refine ⟨fun w => lexed_add _ k v hT (one_size x) w, fun w => ?_⟩
  have e1 := (one_at x).2
  refine (tokens_ok (oneT x) [⟨k, 0, 1, v⟩] (one_ascii x h) (by rw [one_size]; omega) (.tok 0 _ _ hE hk (.eof _ _ _ (tokAt_end 1 (by rw [len_data, one_size]; exact Nat.le_refl _) (.stop _ (by show ¬ White (ch [x] 1); rw [e1]; unfold White; omega) (by show ch [x] 1 ≠ 35; rw [e1]; omega))))) (by rw [one_size]; exact Nat.le_refl _) w).mono ?_
  rintro y w' ⟨A, c, rfl, hown, hb⟩
  obtain ⟨g, cap', hv⟩ := Joins.ownsRow_form hown (by simp)
  rw [hv] at hown
  injection hv with hA hl hcap
  subst hA
  refine ⟨⟨g, c, rfl, (hown.lt g rfl).2, ?_, ?_⟩, hb⟩
  · rw [hown.cellAt 0 (by simp)]
    simp [flat, Tk.cells]
  · rw [hown.cellAt 1 (by simp)]
    simp [flat, Tk.cells]

theorem one_noEnds (x : UInt8) (h10 : (x.toNat : Int) ≠ 10) (h13 : (x.toNat : Int) ≠ 13) : NoEnds [x] := fun i => by
  by_cases hi : i = 0
  · subst hi; rw [(one_at x).1]; exact ⟨h10, h13⟩
  · rw [ch_end (by simp; omega)]; omega

theorem rest_nat : ∀ n : Fin 128, (n.val = 9 ∨ n.val = 32 ∨ n.val = 10 ∨ n.val = 13 ∨ n.val = 44) ∨ n.val = 35 ∨ (48 ≤ n.val ∧ n.val ≤ 57) ∨ (n.val = 95 ∨ (65 ≤ n.val ∧ n.val ≤ 90) ∨ (97 ≤ n.val ∧ n.val ≤ 122)) ∨
    (n.val = 33 ∨ n.val = 36 ∨ n.val = 38 ∨ n.val = 40 ∨ n.val = 41 ∨ n.val = 58 ∨ n.val = 61 ∨ n.val = 64 ∨ n.val = 91 ∨ n.val = 93 ∨ n.val = 123 ∨ n.val = 124 ∨ n.val = 125) ∨ n.val = 34 ∨ n.val = 45 ∨ n.val = 46 ∨ n.val < 32 ∨
    (n.val = 37 ∨ n.val = 39 ∨ n.val = 42 ∨ n.val = 43 ∨ n.val = 47 ∨ n.val = 59 ∨ n.val = 60 ∨ n.val = 62 ∨ n.val = 63 ∨ n.val = 92 ∨ n.val = 94 ∨ n.val = 96 ∨ n.val = 126 ∨ n.val = 127) := by decide +kernel
theorem rest_int (x : UInt8) (h : (x.toNat : Int) < 128) (hw : ¬ White (x.toNat : Int)) (h35 : (x.toNat : Int) ≠ 35) (hd : ¬ Digit (x.toNat : Int)) (hb : ¬ Begin (x.toNat : Int)) (hns : ¬ Sign (x.toNat : Int)) (h34 : (x.toNat : Int) ≠ 34) (h45 : (x.toNat : Int) ≠ 45) (h46 : (x.toNat : Int) ≠ 46) (h31 : ¬ (x.toNat : Int) < 32) :
    (x.toNat : Int) = 37 ∨ (x.toNat : Int) = 39 ∨ (x.toNat : Int) = 42 ∨ (x.toNat : Int) = 43 ∨ (x.toNat : Int) = 47 ∨ (x.toNat : Int) = 59 ∨ (x.toNat : Int) = 60 ∨ (x.toNat : Int) = 62 ∨ (x.toNat : Int) = 63 ∨ (x.toNat : Int) = 92 ∨ (x.toNat : Int) = 94 ∨ (x.toNat : Int) = 96 ∨ (x.toNat : Int) = 126 ∨ (x.toNat : Int) = 127 := by
  have hr := rest_nat ⟨x.toNat, by omega⟩
  simp only at hr
  rcases hr with hr | hr | hr | hr | hr | hr | hr | hr | hr | hr
  · exact absurd (by clear h35 hd hb hns h34 h45 h46 h31 hw; unfold White; omega) hw
  · omega
  · exact absurd (by clear h35 hd hb hns h34 h45 h46 h31 hw; unfold Digit; omega) hd
  · exact absurd (by clear h35 hd hb hns h34 h45 h46 h31 hw; unfold Begin; omega) hb
  · exact absurd (by clear h35 hd hb hns h34 h45 h46 h31 hw; unfold Sign; omega) hns
  · omega
  · omega
  · omega
  · omega
  · clear h35 hd hb hns h34 h45 h46 h31 hw h
    omega

set_option maxHeartbeats 1600000 in
/-- What is refused. -/
theorem one_refused (x : UInt8) (h : (x.toNat : Int) < 128) (hw : ¬ White (x.toNat : Int)) (h35 : (x.toNat : Int) ≠ 35) (hd : ¬ Digit (x.toNat : Int)) (hb : ¬ Begin (x.toNat : Int)) (hns : ¬ Sign (x.toNat : Int)) : Refuse_ (oneT x) := by
  obtain ⟨e0, e1⟩ := one_at x
  have hz := one_size x
  have e0' : ch (oneT x).data.toList 0 = (x.toNat : Int) := e0
  have hge : 0 ≤ (x.toNat : Int) := by omega
  have hsk : Skips [x] 0 0 := .stop 0 (by rw [e0]; exact hw) (by rw [e0]; exact h35)
  have hne : NoEnds [x] := one_noEnds x (by unfold White at hw; omega) (by unfold White at hw; omega)
  by_cases h34 : (x.toNat : Int) = 34
  · refine refuse_of x h ?_ (fun w g hl => token_text hl (by rw [hz]; omega) (by rw [hz]; omega) (by rw [e0']; exact h34) 1 (by omega) (by show ch [x] 1 ≠ 34; rw [e1]; omega) (fun W hW => text_end hW hz))
    intro W p b n cap hS hn
    have hn1 : 1 = n := hS.body.len
    exact tok_string hS hn 0 0 (by omega) hsk 0 0 0 _ true (by rw [e0]; exact h34) (.inl (by rw [show 0 + 1 = 1 by rfl, e1]; omega)) (fun W hS' => str_unterm hS' hne hn1.symm)
  · by_cases h45 : (x.toNat : Int) = 45
    · refine refuse_of x h ?_ (fun w g hl => token_num_bad hl (by rw [hz]; omega) (by rw [hz]; omega) (.inl (by rw [e0']; exact h45)) (fun W hW => numeral_minus hW.cells.1 (by rw [hz]; omega) 0 (by rw [hz]; omega) (by rw [e0']; exact h45) (by show ¬ Digit (ch [x] 1); rw [e1]; unfold Digit; omega)))
      intro W p b n cap hS hn
      have hn1 : 1 = n := hS.body.len
      exact tok_num hS hn 0 0 (by omega) hsk 0 0 0 ⟨#[]⟩ true 45 (by rw [e0]; exact h45) (.inl rfl) (fun W hS' => num_minus hS' hn hne 0 (by omega) (by show ¬ Digit (ch [x] 1); rw [e1]; unfold Digit; omega))
    · refine refuse_of x h ?_ (fun w g hl => token_other hl (by rw [hz]; omega) (by rw [hz]; omega) _ e0' (by unfold White at hw; omega) hns hb h45 hd h34 h 1 (by omega) (by show ch [x] 1 ≠ 46; rw [e1]; omega))
      intro W p b n cap hS hn
      have hn1 : 1 = n := hS.body.len
      by_cases h46 : (x.toNat : Int) = 46
      · exact tok_dot hS hn 0 0 (by omega) hsk hne (by rw [e0]; exact h46) (by rw [show 0 + 1 = 1 by rfl, e1]; omega)
      · by_cases h31 : (x.toNat : Int) < 32
        · exact tok_control hS hn 0 0 (by omega) hsk hne _ e0 hge h31 (by unfold White at hw; omega)
        · exact tok_bad hS hn 0 0 (by omega) hsk hne _ e0 (rest_int x h hw h35 hd hb hns h34 h45 h46 h31)

set_option maxHeartbeats 1600000 in
/-- One byte of ASCII: none, refused, or one token. -/
theorem one_any (x : UInt8) (h : (x.toNat : Int) < 128) : None_ (oneT x) ∨ Refuse_ (oneT x) ∨ ∃ k v, Single_ (oneT x) k v := by
  obtain ⟨e0, e1⟩ := one_at x
  have hz := one_size x
  have e0' : ch (oneT x).data.toList 0 = (x.toNat : Int) := e0
  have hge : 0 ≤ (x.toNat : Int) := by omega
  by_cases hw : White (x.toNat : Int)
  · refine .inl (none_of x h (.white 0 1 (by rw [e0]; exact hw) (.stop _ (by rw [e1]; unfold White; omega) (by rw [e1]; omega))) ?_)
    intro w g hl
    exact token_white hl hz (by rw [e0']; exact hw)
  · by_cases h35 : (x.toNat : Int) = 35
    · refine .inl (none_of x h (.comment 0 1 1 (by rw [e0]; exact h35) (by omega) (fun i h1 h2 => by omega) (by rw [e1]; unfold InC; omega) (.stop _ (by rw [e1]; unfold White; omega) (by rw [e1]; omega))) ?_)
      intro w g hl
      exact token_hash hl hz (by rw [e0']; exact h35)
    · have hsk : Skips [x] 0 0 := .stop 0 (by rw [e0]; exact hw) (by rw [e0]; exact h35)
      by_cases hd : Digit (x.toNat : Int)
      · refine .inr (.inr ⟨16, oneT x, single_of x 16 (oneT x) h rfl ?_ (fun w g hl => token_digit hl hz (by rw [e0']; exact hd))⟩)
        intro W p b n cap hS hn
        have hn1 : 1 = n := hS.body.len
        refine tok_num hS hn 0 0 (by omega) hsk 16 0 1 (oneT x) false _ e0 (.inr (by unfold Digit at hd; exact hd)) (fun W hS' => ?_)
        by_cases h48 : (x.toNat : Int) = 48
        · rw [h48]
          exact num_zero hS' hn 0 (by omega) (-1) e1 (by omega) (by omega) (by omega) (by unfold Digit; omega)
        · exact num_int hS' hn 0 1 (by omega) (by omega) (fun j h1 h2 => by obtain rfl : j = 0 := (by omega); rw [e0]; exact hd) _ e0 h48 (-1) e1 (by omega) (by omega) (by omega) (by unfold Digit; omega)
      · by_cases hb : Begin (x.toNat : Int)
        · refine .inr (.inr ⟨15, oneT x, single_of x 15 (oneT x) h rfl ?_ (fun w g hl => token_letter hl hz (by rw [e0']; exact hb))⟩)
          exact tokAt_name (l := [x]) 0 0 1 (by simp) hsk (by omega) (by simp) (fun j h1 h2 => by omega) (by rw [e1]; unfold NameChar; omega) (by rw [e0]; unfold NameStart; unfold Begin at hb; omega)
        · by_cases hs : ∃ k, SignTo (x.toNat : Int) k
          · obtain ⟨k, hs⟩ := hs
            refine .inr (.inr ⟨k, ⟨#[]⟩, single_of x k ⟨#[]⟩ h (by unfold SignTo at hs; simp; omega) ?_ (fun w g hl => token_sign hl hz _ k e0' hs)⟩)
            intro W p b n cap hS hn
            have hn1 : 1 = n := hS.body.len
            rcases hs with ⟨hs, rfl⟩ | ⟨hs, rfl⟩ | ⟨hs, rfl⟩ | ⟨hs, rfl⟩ | ⟨hs, rfl⟩ | ⟨hs, rfl⟩ | ⟨hs, rfl⟩ | ⟨hs, rfl⟩ | ⟨hs, rfl⟩ | ⟨hs, rfl⟩ | ⟨hs, rfl⟩ | ⟨hs, rfl⟩ | ⟨hs, rfl⟩
            · exact tok_p33 hS hn 0 0 (by omega) hsk (by rw [e0]; exact hs)
            · exact tok_p36 hS hn 0 0 (by omega) hsk (by rw [e0]; exact hs)
            · exact tok_p38 hS hn 0 0 (by omega) hsk (by rw [e0]; exact hs)
            · exact tok_p40 hS hn 0 0 (by omega) hsk (by rw [e0]; exact hs)
            · exact tok_p41 hS hn 0 0 (by omega) hsk (by rw [e0]; exact hs)
            · exact tok_p58 hS hn 0 0 (by omega) hsk (by rw [e0]; exact hs)
            · exact tok_p61 hS hn 0 0 (by omega) hsk (by rw [e0]; exact hs)
            · exact tok_p64 hS hn 0 0 (by omega) hsk (by rw [e0]; exact hs)
            · exact tok_p91 hS hn 0 0 (by omega) hsk (by rw [e0]; exact hs)
            · exact tok_p93 hS hn 0 0 (by omega) hsk (by rw [e0]; exact hs)
            · exact tok_p123 hS hn 0 0 (by omega) hsk (by rw [e0]; exact hs)
            · exact tok_p124 hS hn 0 0 (by omega) hsk (by rw [e0]; exact hs)
            · exact tok_p125 hS hn 0 0 (by omega) hsk (by rw [e0]; exact hs)
          · have hns : ¬ Sign (x.toNat : Int) := by
              intro hh
              apply hs
              unfold SignTo
              rcases hh with hh | hh | hh | hh | hh | hh | hh | hh | hh | hh | hh | hh | hh
              · exact ⟨2, by omega⟩
              · exact ⟨3, by omega⟩
              · exact ⟨20, by omega⟩
              · exact ⟨4, by omega⟩
              · exact ⟨5, by omega⟩
              · exact ⟨7, by omega⟩
              · exact ⟨8, by omega⟩
              · exact ⟨9, by omega⟩
              · exact ⟨10, by omega⟩
              · exact ⟨11, by omega⟩
              · exact ⟨12, by omega⟩
              · exact ⟨13, by omega⟩
              · exact ⟨14, by omega⟩
            exact .inr (.inl (one_refused x h hw h35 hd hb hns))

end Go.Proofs.YthmdgegaejanaaaGreatDoor
