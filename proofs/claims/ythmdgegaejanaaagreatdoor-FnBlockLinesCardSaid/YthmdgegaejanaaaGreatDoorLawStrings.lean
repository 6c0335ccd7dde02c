/- STRINGS: the plain law: two strings side by side. -/
import Derived.Test.YthmdgegaejanaaaGreatDoorLawComments
import Derived.Test.YthmdgegaejanaaaGreatDoorStrA
import Derived.Test.YthmdgegaejanaaaGreatDoorTokS2
namespace Go.Proofs.YthmdgegaejanaaaGreatDoor
open Go.RowKit

theorem skips_here {l : List UInt8} {q : Nat} (h : ¬ White (ch l q)) (h' : ch l q ≠ 35) : Skips l q q := .stop q h h'
theorem skips_of {l : List UInt8} {q : Nat} {c : Int} (hc : ch l q = c) (h : c ≠ 9 ∧ c ≠ 32 ∧ c ≠ 10 ∧ c ≠ 13 ∧ c ≠ 44 ∧ c ≠ 35) : Skips l q q :=
  .stop q (by rw [hc]; unfold White; omega) (by rw [hc]; omega)

theorem tokAt_str {l : List UInt8} (hl : l.length ≤ 140737488355328) (i q e : Nat) (hi : i ≤ l.length) (hs : Skips l i q) (hqe : q < e) (hen : e < l.length) (hq : ch l q = 34)
    (hin : ∀ j, q < j → j < e → PlainAt (ch l j)) (hout : ch l e = 34) (h1 : ch l (q + 1) ≠ 34 ∨ ch l (q + 2) ≠ 34) : TokAt l i 18 q (e + 1) (sub l (q + 1) e) := fun W p b n cap hS hn => by
  have hlen := hS.body.len
  exact tok_string hS hn i q (by omega) hs 18 q (e + 1) _ false hq h1 (fun W hS' => str_plain hS' (by omega) q e hqe (by omega) hin hout)

/-- A string of plain signs that stands in a text: the token there. -/
theorem tokAt_strMid (X A Y : List UInt8) (i : Nat) (hl : (X ++ ([34] ++ (A ++ ([34] ++ Y)))).length ≤ 140737488355328) (hi : i ≤ X.length) (hs : i = X.length ∨ Skips (X ++ ([34] ++ (A ++ ([34] ++ Y)))) i X.length) (hA : ∀ j, j < A.length → PlainCh (ch A j)) (h0 : 0 < A.length) :
    TokAt (X ++ ([34] ++ (A ++ ([34] ++ Y)))) i 18 X.length (X.length + A.length + 2) ⟨A.toArray⟩ := by
  have hq : ch (X ++ ([34] ++ (A ++ ([34] ++ Y)))) X.length = 34 := by rw [ch_at (Nat.le_refl _), Nat.sub_self, ch_left (by decide)]; decide
  have hc : ∀ j, j < A.length → ch (X ++ ([34] ++ (A ++ ([34] ++ Y)))) (X.length + 1 + j) = ch A j := fun j hj => by
    rw [Nat.add_assoc, ch_right, show 1 + j = ([34] : List UInt8).length + j by rfl, ch_right, ch_left hj]
  have he : ch (X ++ ([34] ++ (A ++ ([34] ++ Y)))) (X.length + 1 + A.length) = 34 := by
    rw [Nat.add_assoc, ch_right, show 1 + A.length = ([34] : List UInt8).length + A.length by rfl, ch_right, ch_at (Nat.le_refl _), Nat.sub_self, ch_left (by decide)]; decide
  have hlen : (X ++ ([34] ++ (A ++ ([34] ++ Y)))).length = X.length + 1 + A.length + 1 + Y.length := by simp; omega
  have hs' : Skips (X ++ ([34] ++ (A ++ ([34] ++ Y)))) i X.length := by
    rcases hs with rfl | h
    · exact skips_of hq (by decide)
    · exact h
  have := tokAt_str hl i X.length (X.length + 1 + A.length) (by omega) hs' (by omega) (by omega) hq
    (fun j h1 h2 => by rw [show j = X.length + 1 + (j - X.length - 1) by omega, hc _ (by omega)]; exact hA _ (by omega)) he
    (.inl (by rw [show X.length + 1 = X.length + 1 + 0 by omega, hc 0 h0]; exact (hA 0 h0).2.2.1))
  have hsub : sub (X ++ ([34] ++ (A ++ ([34] ++ Y)))) (X.length + 1) (X.length + 1 + A.length) = ⟨A.toArray⟩ := by
    have h2 := sub_mid (X ++ [34]) A ([34] ++ Y)
    rw [List.append_assoc] at h2
    rwa [show (X ++ ([34] : List UInt8)).length = X.length + 1 by simp] at h2
  rw [hsub] at this
  rwa [show X.length + 1 + A.length + 1 = X.length + A.length + 2 by omega] at this

theorem plainCh_ascii {A : List UInt8} (hA : ∀ j, j < A.length → PlainCh (ch A j)) : Ascii A := ascii_of fun i hi => by
  have := hA i hi; unfold PlainCh at this; omega

theorem strings_lexed (A B : List UInt8) (hA : Plain A) (hB : Plain B) (h0 : 0 < A.length) :
    Ascii ([34] ++ (A ++ ([34, 34] ++ (B ++ [120, 34])))) ∧
    Lexed ([34] ++ (A ++ ([34, 34] ++ (B ++ [120, 34])))) 0 [⟨18, 0, A.length + 2, ⟨A.toArray⟩⟩, ⟨18, A.length + 2, A.length + B.length + 5, ⟨(B ++ [120]).toArray⟩⟩] := by
  have a1 : Ascii [34] := by intro c hc; simp at hc; subst hc; decide
  have a2 : Ascii [34, 34] := by intro c hc; simp at hc; subst hc; decide
  have a3 : Ascii [120, 34] := by intro c hc; simp at hc; rcases hc with rfl | rfl <;> decide
  refine ⟨a1.append ((plainCh_ascii hA.2).append (a2.append ((plainCh_ascii hB.2).append a3))), ?_⟩
  have lA := hA.1
  have lB := hB.1
  have hB2 : ∀ j, j < (B ++ [120]).length → PlainCh (ch (B ++ [120]) j) := fun j hj => by
    by_cases h : j < B.length
    · rw [ch_left h]; exact hB.2 j h
    · simp at hj
      obtain rfl : j = B.length := by omega
      rw [ch_at (Nat.le_refl _), Nat.sub_self]
      unfold PlainCh
      decide
  refine .tok 0 _ _ ?_ rfl (.tok _ _ _ ?_ rfl ?_)
  · have := tokAt_strMid [] A ([34] ++ (B ++ [120, 34])) 0 (by simp; omega) (Nat.le_refl _) (.inl rfl) hA.2 h0
    simpa using this
  · have := tokAt_strMid ([34] ++ (A ++ [34])) (B ++ [120]) [] (A.length + 2) (by simp; omega) (by simp) (.inl (by simp)) hB2 (by simp)
    simp only [List.length_append, List.length_cons, List.length_nil, List.append_assoc, List.cons_append, List.nil_append, List.append_nil] at this ⊢
    rw [show A.length + (0 + 1) + 1 + (B.length + (0 + 1)) + 2 = A.length + B.length + 5 by omega, show A.length + (0 + 1) + 1 = A.length + 2 by omega] at this
    exact this
  · show Lexed _ (A.length + B.length + 5) []
    have hl : ([34] ++ (A ++ ([34, 34] ++ (B ++ [120, 34])))).length = A.length + B.length + 5 := by simp; omega
    have hend := ch_end (Nat.le_refl ([34] ++ (A ++ ([34, 34] ++ (B ++ [120, 34])))).length)
    refine .eof _ _ _ (tokAt_end _ (by omega) ?_)
    rw [hl] at hend ⊢
    refine .stop _ ?_ ?_ <;> rw [hend]
    · unfold White; omega
    · omega

end Go.Proofs.YthmdgegaejanaaaGreatDoor
