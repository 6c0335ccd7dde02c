/- COMMENTS: the plain law: which tokens the text has. -/
import Derived.Test.YthmdgegaejanaaaGreatDoorTokN
import Derived.Test.YthmdgegaejanaaaGreatDoorToks
import Derived.Test.YthmdgegaejanaaaGreatDoorPreds2
namespace Go.Proofs.YthmdgegaejanaaaGreatDoor
open Go.RowKit

theorem tokAt_name {l : List UInt8} (i q e : Nat) (hi : i ≤ l.length) (hs : Skips l i q) (hqe : q < e) (hen : e ≤ l.length) (hin : ∀ j, q < j → j < e → NameChar (ch l j)) (hout : ¬ NameChar (ch l e)) (hc : NameStart (ch l q)) :
    TokAt l i 15 q e (sub l q e) := fun W p b n cap hS hn => tok_name hS hn i q e (by rw [← hS.body.len]; exact hi) hs hqe (by rw [← hS.body.len]; exact hen) hin hout hc
theorem tokAt_end {l : List UInt8} (i : Nat) (hi : i ≤ l.length) (hs : Skips l i l.length) : TokAt l i 1 l.length l.length ⟨#[]⟩ := fun W p b n cap hS hn => by
  have e := hS.body.len
  rw [e] at hi hs ⊢
  exact tok_end hS hn i hi hs

theorem ch_left {x y : List UInt8} {i : Nat} (h : i < x.length) : ch (x ++ y) i = ch x i := by
  rw [ch_get (by rw [List.length_append]; omega), ch_get h, List.getElem_append_left]
theorem ch_right (x y : List UInt8) (i : Nat) : ch (x ++ y) (x.length + i) = ch y i := by
  by_cases h : i < y.length
  · rw [ch_get (by rw [List.length_append]; omega), ch_get h, List.getElem_append_right (by omega)]
    congr 3
    omega
  · rw [ch_end (by rw [List.length_append]; omega), ch_end (by omega)]
theorem ch_at {x y : List UInt8} {i : Nat} (h : x.length ≤ i) : ch (x ++ y) i = ch y (i - x.length) := by
  have := ch_right x y (i - x.length)
  rwa [show x.length + (i - x.length) = i by omega] at this
theorem sub_mid (x y z : List UInt8) : sub (x ++ (y ++ z)) x.length (x.length + y.length) = ⟨y.toArray⟩ := by
  unfold sub
  rw [List.drop_left, show x.length + y.length - x.length = y.length by omega, List.take_left]

theorem Ascii.append {x y : List UInt8} (hx : Ascii x) (hy : Ascii y) : Ascii (x ++ y) := fun c hc => by
  rcases List.mem_append.1 hc with h | h
  · exact hx c h
  · exact hy c h
theorem ascii_of {l : List UInt8} (h : ∀ i, i < l.length → ch l i < 128) : Ascii l := fun c hc => by
  obtain ⟨i, hi, rfl⟩ := List.getElem_of_mem hc
  have := h i hi
  rw [ch_get hi] at this
  omega

theorem IsName.start {l : List UInt8} (h : IsName l) : NameStart (ch l 0) ∧ 0 < l.length := by
  obtain ⟨h1, _, h3⟩ := h
  have hl : 0 < l.length := List.length_pos_iff.2 h1
  have := h3 0 hl
  unfold LetterAt at this
  unfold NameStart
  exact ⟨by omega, hl⟩
theorem IsName.char {l : List UInt8} (h : IsName l) (i : Nat) (hi : i < l.length) : NameChar (ch l i) := by
  have := h.2.2 i hi
  unfold LetterAt at this
  unfold NameChar
  omega
theorem IsName.ascii {l : List UInt8} (h : IsName l) : Ascii l := ascii_of fun i hi => by
  have := h.char i hi
  unfold NameChar at this
  omega

/-- A name that stands in a text: the token there. -/
theorem tokAt_mid (X A Y : List UInt8) (i : Nat) (hi : i ≤ X.length) (hs : Skips (X ++ (A ++ Y)) i X.length) (hA : IsName A) (hy : ¬ NameChar (ch Y 0)) :
    TokAt (X ++ (A ++ Y)) i 15 X.length (X.length + A.length) ⟨A.toArray⟩ := by
  have h0 := hA.start.2
  have hc : ∀ j, j < A.length → ch (X ++ (A ++ Y)) (X.length + j) = ch A j := fun j hj => by rw [ch_right, ch_left hj]
  have := tokAt_name (l := X ++ (A ++ Y)) i X.length (X.length + A.length) (by simp; omega) hs (by omega) (by simp)
    (fun j h1 h2 => by rw [show j = X.length + (j - X.length) by omega, hc _ (by omega)]; exact hA.char _ (by omega))
    (by rw [ch_right, show A.length = A.length + 0 by omega, ch_right]; exact hy)
    (by rw [show X.length = X.length + 0 by omega, hc 0 h0]; exact hA.start.1)
  rwa [sub_mid] at this

theorem skips_name (X A Y : List UInt8) (hA : IsName A) : Skips (X ++ (A ++ Y)) X.length X.length := by
  have h0 := hA.start
  have hc : ch (X ++ (A ++ Y)) X.length = ch A 0 := by rw [show X.length = X.length + 0 by omega, ch_right, ch_left h0.2]
  have hn := h0.1
  unfold NameStart at hn
  refine .stop _ ?_ ?_ <;> rw [hc]
  · unfold White; omega
  · omega

theorem comments_lexed (A C E B : List UInt8) (hA : IsName A) (hB : IsName B) (hC : ∀ i, i < C.length → 32 ≤ ch C i ∧ ch C i ≤ 126) (hE : E = [10] ∨ E = [13] ∨ E = [13, 10]) :
    Ascii (A ++ ([35] ++ (C ++ (E ++ (B ++ ([35] ++ C)))))) ∧
    Lexed (A ++ ([35] ++ (C ++ (E ++ (B ++ ([35] ++ C)))))) 0 [⟨15, 0, A.length, ⟨A.toArray⟩⟩, ⟨15, A.length + 1 + C.length + E.length, A.length + 1 + C.length + E.length + B.length, ⟨B.toArray⟩⟩] := by
  have hCa : Ascii C := ascii_of fun i hi => by have := hC i hi; omega
  have h35 : Ascii [35] := by intro c hc; simp at hc; subst hc; decide
  have hEa : Ascii E := by
    rcases hE with rfl | rfl | rfl <;> (intro c hc; simp at hc)
    · subst hc; decide
    · subst hc; decide
    · rcases hc with rfl | rfl <;> decide
  refine ⟨hA.ascii.append (h35.append (hCa.append (hEa.append (hB.ascii.append (h35.append hCa))))), ?_⟩
  have e35 : ch [35] 0 = 35 := by decide
  -- the first name
  refine .tok 0 _ _ ?_ rfl ?_
  · have := tokAt_mid [] A ([35] ++ (C ++ (E ++ (B ++ ([35] ++ C))))) 0 (Nat.le_refl _) (skips_name [] A _ hA) hA (by rw [ch_left (by decide), e35]; unfold NameChar; omega)
    simpa using this
  -- the second name
  have hx : A ++ ([35] ++ (C ++ (E ++ (B ++ ([35] ++ C))))) = (A ++ ([35] ++ (C ++ E))) ++ (B ++ ([35] ++ C)) := by simp
  have hxl : (A ++ ([35] ++ (C ++ E))).length = A.length + 1 + C.length + E.length := by simp; omega
  have hsk : Skips ((A ++ ([35] ++ (C ++ E))) ++ (B ++ ([35] ++ C))) A.length (A.length + 1 + C.length + E.length) := by
    have hs2 : Skips ((A ++ ([35] ++ (C ++ E))) ++ (B ++ ([35] ++ C))) (A.length + 1 + C.length + E.length) (A.length + 1 + C.length + E.length) := by
      have := skips_name (A ++ ([35] ++ (C ++ E))) B ([35] ++ C) hB
      rwa [hxl] at this
    have hcc : ∀ j, j < C.length → ch ((A ++ ([35] ++ (C ++ E))) ++ (B ++ ([35] ++ C))) (A.length + 1 + j) = ch C j := fun j hj => by
      rw [ch_left (by rw [hxl]; omega), show A.length + 1 + j = A.length + (1 + j) by omega, ch_right, show 1 + j = ([35] : List UInt8).length + j by rfl, ch_right, ch_left hj]
    have hce : ∀ j, j < E.length → ch ((A ++ ([35] ++ (C ++ E))) ++ (B ++ ([35] ++ C))) (A.length + 1 + C.length + j) = ch E j := fun j hj => by
      rw [ch_left (by rw [hxl]; omega), show A.length + 1 + C.length + j = A.length + (1 + (C.length + j)) by omega, ch_right, show 1 + (C.length + j) = ([35] : List UInt8).length + (C.length + j) by rfl, ch_right, ch_right]
    refine .comment A.length (A.length + 1 + C.length) _ ?_ (by omega) (fun i h1 h2 => ?_) ?_ ?_
    · rw [ch_left (by rw [hxl]; omega), show A.length = A.length + 0 by omega, ch_right, ch_left (by decide), e35]
    · rw [show i = A.length + 1 + (i - A.length - 1) by omega, hcc _ (by omega)]
      have := hC (i - A.length - 1) (by omega)
      unfold InC; omega
    · rcases hE with rfl | rfl | rfl
      all_goals
        rw [show A.length + 1 + C.length = A.length + 1 + C.length + 0 by omega, hce 0 (by decide)]
        unfold InC; decide
    · rcases hE with rfl | rfl | rfl
      · refine .white _ _ ?_ hs2
        rw [show A.length + 1 + C.length = A.length + 1 + C.length + 0 by omega, hce 0 (by decide)]
        unfold White; decide
      · refine .white _ _ ?_ hs2
        rw [show A.length + 1 + C.length = A.length + 1 + C.length + 0 by omega, hce 0 (by decide)]
        unfold White; decide
      · refine .white _ _ ?_ (.white _ _ ?_ hs2)
        · rw [show A.length + 1 + C.length = A.length + 1 + C.length + 0 by omega, hce 0 (by decide)]
          unfold White; decide
        · rw [hce 1 (by decide)]
          unfold White; decide
  refine .tok _ _ _ ?_ rfl ?_
  · rw [hx]
    have := tokAt_mid (A ++ ([35] ++ (C ++ E))) B ([35] ++ C) A.length (by rw [hxl]; omega) (by rw [hxl]; exact hsk) hB (by rw [ch_left (by decide), e35]; unfold NameChar; omega)
    rwa [hxl] at this
  -- the end
  show Lexed _ (A.length + 1 + C.length + E.length + B.length) []
  refine .eof _ _ _ (tokAt_end _ ?_ ?_)
  · simp; omega
  · have hl : (A ++ ([35] ++ (C ++ (E ++ (B ++ ([35] ++ C)))))).length = A.length + 1 + C.length + E.length + B.length + 1 + C.length := by simp; omega
    have hy : A ++ ([35] ++ (C ++ (E ++ (B ++ ([35] ++ C))))) = (A ++ ([35] ++ (C ++ (E ++ B)))) ++ ([35] ++ C) := by simp
    have hyl : (A ++ ([35] ++ (C ++ (E ++ B)))).length = A.length + 1 + C.length + E.length + B.length := by simp; omega
    have hend : ch (A ++ ([35] ++ (C ++ (E ++ (B ++ ([35] ++ C)))))) (A ++ ([35] ++ (C ++ (E ++ (B ++ ([35] ++ C)))))).length = -1 := ch_end (Nat.le_refl _)
    refine .comment _ (A ++ ([35] ++ (C ++ (E ++ (B ++ ([35] ++ C)))))).length _ ?_ (by rw [hl]; omega) (fun i h1 h2 => ?_) ?_ (.stop _ ?_ ?_)
    · rw [hy, ch_at (by rw [hyl]; omega), hyl, Nat.sub_self, ch_left (by decide), e35]
    · rw [hl] at h2
      rw [hy, ch_at (by rw [hyl]; omega), hyl, ch_at (by show 1 ≤ _; omega)]
      have := hC (i - (A.length + 1 + C.length + E.length + B.length) - [35].length) (by show _ - 1 < _; omega)
      unfold InC; omega
    · rw [hend]; unfold InC; omega
    · rw [hend]; unfold White; omega
    · rw [hend]; omega

end Go.Proofs.YthmdgegaejanaaaGreatDoor
