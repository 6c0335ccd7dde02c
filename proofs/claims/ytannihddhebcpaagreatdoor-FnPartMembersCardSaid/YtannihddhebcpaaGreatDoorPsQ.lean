/- THE MEMBERS OF A UNION: the plain law: the tokens of the text. -/
import Derived.Test.YtannihddhebcpaaGreatDoorPsG
import Derived.Test.YtannihddhebcpaaGreatDoorTokN
import Derived.Test.YtannihddhebcpaaGreatDoorTokP
import Derived.Test.YtannihddhebcpaaGreatDoorPreds
namespace Go.Proofs.YtannihddhebcpaaGreatDoor
open Go.RowKit

theorem tokAt_name {l : List UInt8} (i q e : Nat) (hi : i ≤ l.length) (hs : Skips l i q) (hqe : q < e) (hen : e ≤ l.length) (hin : ∀ j, q < j → j < e → NameChar (ch l j)) (hout : ¬ NameChar (ch l e)) (hc : NameStart (ch l q)) :
    TokAt l i 15 q e (sub l q e) := fun W p b n cap hS hn => tok_name hS hn i q e (by rw [← hS.body.len]; exact hi) hs hqe (by rw [← hS.body.len]; exact hen) hin hout hc
theorem ch_left {x y : List UInt8} {i : Nat} (h : i < x.length) : ch (x ++ y) i = ch x i := by
  rw [ch_get (by rw [List.length_append]; omega), ch_get h, List.getElem_append_left]
theorem ch_right (x y : List UInt8) (i : Nat) : ch (x ++ y) (x.length + i) = ch y i := by
  by_cases h : i < y.length
  · rw [ch_get (by rw [List.length_append]; omega), ch_get h, List.getElem_append_right (by omega)]
    congr 3
    omega
  · rw [ch_end (by rw [List.length_append]; omega), ch_end (by omega)]
theorem ch_at {x y : List UInt8} {i : Nat} (h : x.length ≤ i) : ch (x ++ y) i = ch y (i - x.length) := by
  have := ch_right x y (i - x.length)
  rwa [show x.length + (i - x.length) = i by omega] at this
theorem sub_mid (x y z : List UInt8) : sub (x ++ (y ++ z)) x.length (x.length + y.length) = ⟨y.toArray⟩ := by
  unfold sub
  rw [List.drop_left, show x.length + y.length - x.length = y.length by omega, List.take_left]

theorem Ascii.append {x y : List UInt8} (hx : Ascii x) (hy : Ascii y) : Ascii (x ++ y) := fun c hc => by
  rcases List.mem_append.1 hc with h | h
  · exact hx c h
  · exact hy c h
theorem ascii_of {l : List UInt8} (h : ∀ i, i < l.length → ch l i < 128) : Ascii l := fun c hc => by
  obtain ⟨i, hi, rfl⟩ := List.getElem_of_mem hc
  have := h i hi
  rw [ch_get hi] at this
  omega

theorem IsName.start {l : List UInt8} (h : IsName l) : NameStart (ch l 0) ∧ 0 < l.length := by
  obtain ⟨h1, _, h3⟩ := h
  have hl : 0 < l.length := List.length_pos_iff.2 h1
  have := h3 0 hl
  unfold LetterAt at this
  unfold NameStart
  exact ⟨by omega, hl⟩
theorem IsName.char {l : List UInt8} (h : IsName l) (i : Nat) (hi : i < l.length) : NameChar (ch l i) := by
  have := h.2.2 i hi
  unfold LetterAt at this
  unfold NameChar
  omega
theorem IsName.ascii {l : List UInt8} (h : IsName l) : Ascii l := ascii_of fun i hi => by
  have := h.char i hi
  unfold NameChar at this
  omega

/-- A name that stands in a text: the token there. -/
theorem tokAt_mid (X A Y : List UInt8) (i : Nat) (hi : i ≤ X.length) (hs : Skips (X ++ (A ++ Y)) i X.length) (hA : IsName A) (hy : ¬ NameChar (ch Y 0)) :
    TokAt (X ++ (A ++ Y)) i 15 X.length (X.length + A.length) ⟨A.toArray⟩ := by
  have h0 := hA.start.2
  have hc : ∀ j, j < A.length → ch (X ++ (A ++ Y)) (X.length + j) = ch A j := fun j hj => by rw [ch_right, ch_left hj]
  have := tokAt_name (l := X ++ (A ++ Y)) i X.length (X.length + A.length) (by simp; omega) hs (by omega) (by simp)
    (fun j h1 h2 => by rw [show j = X.length + (j - X.length) by omega, hc _ (by omega)]; exact hA.char _ (by omega))
    (by rw [ch_right, show A.length = A.length + 0 by omega, ch_right]; exact hy)
    (by rw [show X.length = X.length + 0 by omega, hc 0 h0]; exact hA.start.1)
  rwa [sub_mid] at this

theorem skips_name (X A Y : List UInt8) (hA : IsName A) : Skips (X ++ (A ++ Y)) X.length X.length := by
  have h0 := hA.start
  have hc : ch (X ++ (A ++ Y)) X.length = ch A 0 := by rw [show X.length = X.length + 0 by omega, ch_right, ch_left h0.2]
  have hn := h0.1
  unfold NameStart at hn
  refine .stop _ ?_ ?_ <;> rw [hc]
  · unfold White; omega
  · omega

def ba (l : List UInt8) : ByteArray := ⟨l.toArray⟩
theorem ba_of (s : ByteArray) : ba s.data.toList = s := rfl
def tailOf (r : List (List UInt8)) : List UInt8 := r.flatMap (fun x => [32, 124, 32] ++ x)
/-- Where the names stand behind place p. -/
def places : Nat → List (List UInt8) → List Nm
  | _, [] => []
  | p, x :: r => (p + 3, p + 3 + x.length, ba x) :: places (p + 3 + x.length) r
theorem places_len : ∀ (p : Nat) (r : List (List UInt8)), (places p r).length = r.length
  | _, [] => rfl
  | p, x :: r => by simp [places, places_len _ r]
theorem places_names : ∀ (p : Nat) (r : List (List UInt8)), (places p r).map (·.2.2) = r.map ba
  | _, [] => rfl
  | p, x :: r => by simp [places, places_names _ r]

theorem tokAt_pipe {l : List UInt8} (i q : Nat) (hi : i ≤ l.length) (hs : Skips l i q) (hc : ch l q = 124) : TokAt l i 13 q (q + 1) ⟨#[]⟩ := fun W p b n cap hS hn => by
  have h := tok_p124 hS hn i q (by rw [← hS.body.len]; exact hi) hs hc
  rwa [show ((q + 1 : Nat) : Int) = (q : Int) + 1 by omega]
theorem tokAt_brace {l : List UInt8} (i q : Nat) (hi : i ≤ l.length) (hs : Skips l i q) (hc : ch l q = 125) : TokAt l i 14 q (q + 1) ⟨#[]⟩ := fun W p b n cap hS hn => by
  have h := tok_p125 hS hn i q (by rw [← hS.body.len]; exact hi) hs hc
  rwa [show ((q + 1 : Nat) : Int) = (q : Int) + 1 by omega]

theorem mems_of : ∀ (r : List (List UInt8)) (X : List UInt8), (∀ x ∈ r, IsName x) → Mems (X ++ (tailOf r ++ [32, 125])) (X.length + (tailOf r).length + 1) X.length (places X.length r)
  | [], X, _ => by
    have e0 : ch (X ++ (tailOf [] ++ [32, 125])) X.length = 32 := by rw [ch_at (Nat.le_refl _), Nat.sub_self]; decide
    have e1 : ch (X ++ (tailOf [] ++ [32, 125])) (X.length + 1) = 125 := by rw [ch_right]; decide
    have hlen : (X ++ (tailOf [] ++ [32, 125])).length = X.length + 2 := by simp [tailOf]
    refine .last _ (X.length + 1 + 1) ?_
    exact tokAt_brace X.length (X.length + 1) (by omega) (.white _ _ (by rw [e0]; unfold White; omega) (.stop _ (by rw [e1]; unfold White; omega) (by rw [e1]; omega))) e1
  | x :: r, X, h => by
    have hx := h x (List.mem_cons_self ..)
    have ih := mems_of r (X ++ ([32, 124, 32] ++ x)) (fun y hy => h y (List.mem_cons_of_mem _ hy))
    have eT : tailOf (x :: r) = [32, 124, 32] ++ (x ++ tailOf r) := by simp [tailOf]
    have eL : X ++ ([32, 124, 32] ++ x) ++ (tailOf r ++ [32, 125]) = X ++ (tailOf (x :: r) ++ [32, 125]) := by rw [eT]; simp
    have eX : (X ++ ([32, 124, 32] ++ x)).length = X.length + 3 + x.length := by simp; omega
    have eZ : (tailOf (x :: r)).length = 3 + x.length + (tailOf r).length := by rw [eT]; simp; omega
    rw [eL, eX] at ih
    have hlen : (X ++ (tailOf (x :: r) ++ [32, 125])).length = X.length + (3 + x.length + (tailOf r).length) + 2 := by rw [List.length_append, List.length_append, eZ]; simp; omega
    have hc : ∀ j, j < 3 → ch (X ++ (tailOf (x :: r) ++ [32, 125])) (X.length + j) = ch [32, 124, 32] j := fun j hj => by
      rw [ch_right, eT, List.append_assoc, ch_left (by simpa using hj)]
    have e0 : ch (X ++ (tailOf (x :: r) ++ [32, 125])) X.length = 32 := hc 0 (by omega)
    have e1 : ch (X ++ (tailOf (x :: r) ++ [32, 125])) (X.length + 1) = 124 := hc 1 (by omega)
    have e2 : ch (X ++ (tailOf (x :: r) ++ [32, 125])) (X.length + 1 + 1) = 32 := hc 2 (by omega)
    have hz : X.length + (tailOf (x :: r)).length + 1 = X.length + 3 + x.length + (tailOf r).length + 1 := by rw [eZ]; omega
    rw [hz]
    have hst := hx.start
    refine .more _ (X.length + 1) (X.length + 1 + 1) (X.length + 3) (X.length + 3 + x.length) (ba x) _ ?_ (by omega) ?_ (by omega) ih
    · exact tokAt_pipe X.length (X.length + 1) (by omega) (.white _ _ (by rw [e0]; unfold White; omega) (.stop _ (by rw [e1]; unfold White; omega) (by rw [e1]; omega))) e1
    · have eM : X ++ (tailOf (x :: r) ++ [32, 125]) = (X ++ [32, 124, 32]) ++ (x ++ (tailOf r ++ [32, 125])) := by rw [eT]; simp
      have eN : (X ++ [32, 124, 32]).length = X.length + 3 := by simp
      have hsk := skips_name (X ++ [32, 124, 32]) x (tailOf r ++ [32, 125]) hx
      rw [eN, ← eM] at hsk
      have hy : ¬ NameChar (ch (tailOf r ++ [32, 125]) 0) := by
        have : ch (tailOf r ++ [32, 125]) 0 = 32 := by
          cases r with
          | nil => decide
          | cons y r2 => rw [ch_left (by simp [tailOf])]; simp only [tailOf, List.flatMap_cons]; rw [List.append_assoc, ch_left (by decide)]; decide
        rw [this]
        unfold NameChar
        omega
      have ht := tokAt_mid (X ++ [32, 124, 32]) x (tailOf r ++ [32, 125]) (X.length + 1 + 1) (by rw [eN]; omega) (by rw [← eM, eN]; exact .white _ _ (by rw [e2]; unfold White; omega) hsk) hx hy
      rw [← eM, eN] at ht
      exact ht

/-- The first name. -/
theorem first_of (x : List UInt8) (r : List (List UInt8)) (hx : IsName x) : TokAt (x ++ (tailOf r ++ [32, 125])) 0 15 0 x.length (ba x) := by
  have hy : ¬ NameChar (ch (tailOf r ++ [32, 125]) 0) := by
    have : ch (tailOf r ++ [32, 125]) 0 = 32 := by
      cases r with
      | nil => decide
      | cons y r2 => rw [ch_left (by simp [tailOf])]; simp only [tailOf, List.flatMap_cons]; rw [List.append_assoc, ch_left (by decide)]; decide
    rw [this]
    unfold NameChar
    omega
  have hsk := skips_name [] x (tailOf r ++ [32, 125]) hx
  have ht := tokAt_mid [] x (tailOf r ++ [32, 125]) 0 (Nat.le_refl _) hsk hx hy
  simp only [List.nil_append, List.length_nil, Nat.zero_add] at ht
  exact ht

theorem text_ascii (x : List UInt8) (r : List (List UInt8)) (hx : IsName x) (h : ∀ y ∈ r, IsName y) : Ascii (x ++ (tailOf r ++ [32, 125])) := by
  refine hx.ascii.append (Ascii.append (fun c hc => ?_) (by intro c hc; revert c; decide))
  obtain ⟨y, hy, hc⟩ := List.mem_flatMap.1 hc
  rcases List.mem_append.1 hc with hc | hc
  · exact (show ∀ c ∈ ([32, 124, 32] : List UInt8), c.toNat < 128 by decide) c hc
  · exact (h y hy).ascii c hc

end Go.Proofs.YtannihddhebcpaaGreatDoor
