/- NUMBERS THAT ARE REFUSED: the plain law: ten bends, each refused by both lexers. -/
import Derived.Test.YthmdgegaejanaaaGreatDoorSpecE
import Derived.Test.YthmdgegaejanaaaGreatDoorSpecB
import Derived.Test.YthmdgegaejanaaaGreatDoorTokX2
namespace Go.Proofs.YthmdgegaejanaaaGreatDoor
open Go.RowKit

/-- Signs of ASCII and no line ends. -/
def Clean (l : List UInt8) : Prop := ∀ i, i < l.length → 32 ≤ ch l i ∧ ch l i < 128
theorem Clean.ascii {l : List UInt8} (h : Clean l) : Ascii l := ascii_of fun i hi => (h i hi).2
theorem Clean.noEnds {l : List UInt8} (h : Clean l) : NoEnds l := fun i => by
  by_cases hi : i < l.length
  · have := h i hi; omega
  · rw [ch_end (by omega)]; omega
theorem Clean.append {x y : List UInt8} (hx : Clean x) (hy : Clean y) : Clean (x ++ y) := fun i hi => by
  by_cases h : i < x.length
  · rw [ch_left h]; exact hx i h
  · rw [ch_at (by omega)]; exact hy _ (by rw [List.length_append] at hi; omega)
theorem Digits.clean {l : List UInt8} (h : Digits l) : Clean l := fun i hi => by have := h.2.2 i hi; unfold Digit at this; omega
theorem clean_cons {c : UInt8} {l : List UInt8} (hc : 32 ≤ c.toNat ∧ c.toNat < 128) (h : Clean l) : Clean (c :: l) := by
  have : Clean [c] := fun i hi => by
    obtain rfl : i = 0 := by simpa using hi
    rw [ch_get (by simp)]
    simp only [List.getElem_cons_zero]
    omega
  simpa using this.append h
theorem clean_nil : Clean [] := fun i hi => by simp at hi

/-- What both lexers refuse. -/
structure Bend (s : ByteArray) : Prop where
  small : s.size ≤ 100
  bad : ∀ w, Calls Tryz.prog 11 #[.string s] w fun x w' => x = .returned (.tuple #[.slice none 0 0, .bool false]) ∧ Below w.heap.size w w'
  one : Token1 s 0 true false
  some : 0 < s.size

theorem bend_of (s : ByteArray) (hc : Clean s.data.toList) (h1 : s.size ≤ 100) (h0 : 0 < s.size) (hE : ErrAt s.data.toList 0) (hT : Token1 s 0 true false) : Bend s :=
  ⟨h1, fun w => tokens_bad s [] hc.ascii (by omega) (.bad 0 hE) (by simp) w, hT, h0⟩

/-- Where a minus sign or a digit stands, over the two readers of numbers. -/
theorem bend_num (s : ByteArray) (hc : Clean s.data.toList) (h1 : s.size ≤ 100) (h0 : 0 < s.size) (c : Int) (e0 : ch s.data.toList 0 = c) (hd : c = 45 ∨ (48 ≤ c ∧ c ≤ 57))
    (hI : ∀ (W : World) (p b n cap : Nat), Src W p b n cap s.data.toList → n = s.size → NoEnds s.data.toList → n ≤ 4611686018427387904 → Calls Tryz.prog 30 #[.pointer (some ⟨p, 0, none⟩), .int .i64 ((0 : Nat) : Int), .int .i32 c, .int .i64 1] W fun x w' => IsErr x ∧ Below W.heap.size W w')
    (hS : ∀ (W : World) (g : Nat), W.cell? ⟨g, 0, none⟩ = some (.string s) → Calls Tryz.prog 54 #[.pointer (some ⟨g, 0, none⟩), .int .i64 ((0 : Nat) : Int)] W fun x w' => x = .returned (.tuple #[.int .i64 0, .int .i64 0]) ∧ W = w') : Bend s := by
  have hsk : Skips s.data.toList 0 0 := skips_of e0 (by omega)
  refine bend_of s hc h1 h0 ?_ ?_
  · intro W p b n cap hsrc hn
    have hl : n = s.size := by rw [← hsrc.body.len, len_data]
    exact tok_num hsrc hn 0 0 (by omega) hsk 0 0 0 ⟨#[]⟩ true c e0 hd (fun W hsrc' => hI W p b n cap hsrc' hl hc.noEnds hn)
  · intro w g hx
    exact token_num_bad hx (by omega) h0 (by rw [e0]; unfold Digit; omega) (fun W hW => hS W g hW.cells.1)

theorem ch_cons (a : UInt8) (l : List UInt8) (i : Nat) : ch (a :: l) (i + 1) = ch l i := by
  have := ch_right [a] l i
  rwa [show ([a] : List UInt8).length + i = i + 1 by simp; omega] at this
theorem ch_zero (a : UInt8) (l : List UInt8) : ch (a :: l) 0 = (a.toNat : Int) := by rw [ch_get (by simp)]; rfl
theorem ch_nil (i : Nat) : ch [] i = -1 := ch_end (by simp)

theorem cat2 (x y : ByteArray) : (x ++ y).data.toList = x.data.toList ++ y.data.toList := by rw [Joins.data_append]

theorem Digits.at0 {l : List UInt8} (h : Digits l) : Digit (ch l 0) := h.2.2 0 (List.length_pos_iff.2 h.1)
theorem Digits.pos {l : List UInt8} (h : Digits l) : 0 < l.length := List.length_pos_iff.2 h.1

-- 0: a nought ahead
theorem bend0 (a b : ByteArray) (ha : Digits a.data.toList) (_ : Digits b.data.toList) (_ : ch a.data.toList 0 ≠ 48) :
    Bend ((⟨#[48]⟩ : ByteArray) ++ a ++ (⟨#[32]⟩ : ByteArray)) := by
  have e : ((⟨#[48]⟩ : ByteArray) ++ a ++ (⟨#[32]⟩ : ByteArray)).data.toList = 48 :: (a.data.toList ++ [32]) := by simp
  have hz : ((⟨#[48]⟩ : ByteArray) ++ a ++ (⟨#[32]⟩ : ByteArray)).size = a.data.toList.length + 2 := by rw [← len_data, e]; simp
  have hl := ha.2.1
  have hp := ha.pos
  have hin : ∀ j, j < a.data.toList.length → Digit (ch (48 :: (a.data.toList ++ [32])) (j + 1)) := fun j hj => by rw [ch_cons, ch_left hj]; exact ha.2.2 j hj
  have hd : ∀ j, j < a.data.toList.length + 1 → Digit (ch (48 :: (a.data.toList ++ [32])) j) := fun j hj => by
    cases j with
    | zero => rw [ch_zero]; unfold Digit; decide
    | succ j => exact hin j (by omega)
  have hout : ¬ Digit (ch (48 :: (a.data.toList ++ [32])) (a.data.toList.length + 1)) := by rw [ch_cons, ch_at (Nat.le_refl _), Nat.sub_self, ch_zero]; unfold Digit; decide
  refine bend_num _ (by rw [e]; exact clean_cons (by decide) (ha.clean.append (clean_cons (by decide) clean_nil))) (by omega) (by omega) 48 (by rw [e, ch_zero]; rfl) (by omega) ?_ ?_
  · intro W p b n cap hS hn he hn2
    exact num_nought hS hn2 he 0 (by rw [e]; exact hin 0 hp)
  · intro W g hc
    exact numeral_nought hc (by omega) 0 (a.data.toList.length + 1) (by omega) (by omega) (by rw [e, ch_zero]; rfl) (fun j _ hj => by rw [e]; exact hd j hj) (by rw [e]; exact hout)

-- 1: a minus sign alone
theorem bend1 (a b : ByteArray) (_ : Digits a.data.toList) (_ : Digits b.data.toList) (_ : ch a.data.toList 0 ≠ 48) :
    Bend ((⟨#[45]⟩ : ByteArray) ++ (⟨#[32]⟩ : ByteArray)) := by
  have e : ((⟨#[45]⟩ : ByteArray) ++ (⟨#[32]⟩ : ByteArray)).data.toList = [45, 32] := by simp
  have hz : ((⟨#[45]⟩ : ByteArray) ++ (⟨#[32]⟩ : ByteArray)).size = 2 := by rw [← len_data, e]; rfl
  refine bend_num _ (by rw [e]; exact clean_cons (by decide) (clean_cons (by decide) clean_nil)) (by omega) (by omega) 45 (by rw [e]; decide) (by omega) ?_ ?_
  · intro W p b n cap hS hn he hn2
    exact num_minus hS hn2 he 0 (by omega) (by rw [e]; unfold Digit; decide)
  · intro W g hc
    exact numeral_minus hc (by omega) 0 (by omega) (by rw [e]; decide) (by rw [e]; unfold Digit; decide)

/-- Where digits that begin with no nought stand ahead. -/
theorem ahead (a : ByteArray) (ha : Digits a.data.toList) (h48 : ch a.data.toList 0 ≠ 48) (Y : List UInt8) : (∀ j, 0 ≤ j → j < a.data.toList.length → Digit (ch (a.data.toList ++ Y) j)) ∧ (∀ k, ch (a.data.toList ++ Y) (a.data.toList.length + k) = ch Y k) ∧ ch (a.data.toList ++ Y) 0 ≠ 48 ∧ Digit (ch (a.data.toList ++ Y) 0) :=
  ⟨fun j _ hj => by rw [ch_left hj]; exact ha.2.2 j hj, fun k => ch_right _ _ k, by rw [ch_left ha.pos]; exact h48, by rw [ch_left ha.pos]; exact ha.at0⟩

-- 2: a point without digits
theorem bend2 (a b : ByteArray) (ha : Digits a.data.toList) (_ : Digits b.data.toList) (h48 : ch a.data.toList 0 ≠ 48) :
    Bend (a ++ (⟨#[46]⟩ : ByteArray) ++ (⟨#[32]⟩ : ByteArray)) := by
  have e : (a ++ (⟨#[46]⟩ : ByteArray) ++ (⟨#[32]⟩ : ByteArray)).data.toList = a.data.toList ++ [46, 32] := by simp
  have hz : (a ++ (⟨#[46]⟩ : ByteArray) ++ (⟨#[32]⟩ : ByteArray)).size = a.data.toList.length + 2 := by rw [← len_data, e]; simp
  have hl := ha.2.1
  have hp := ha.pos
  obtain ⟨q1, q2, q3, q4⟩ := ahead a ha h48 [46, 32]
  have p0 := q2 0
  have p1 := q2 1
  rw [Nat.add_zero, show ch [46, 32] 0 = 46 by decide] at p0
  rw [show ch [46, 32] 1 = 32 by decide] at p1
  rw [← e] at q1 q3 q4 p0 p1
  refine bend_num _ (by rw [e]; exact ha.clean.append (clean_cons (by decide) (clean_cons (by decide) clean_nil))) (by omega) (by omega) _ rfl (.inr q4) ?_ ?_
  · intro W p b n cap hS hn he hn2
    exact num_point hS hn2 he 0 _ hp q1 _ rfl q3 p0 (by rw [p1]; unfold Digit; decide)
  · intro W g hc
    exact numeral_point hc (by omega) 0 _ hp (by omega) q3 q1 p0 (by rw [p1]; unfold Digit; decide)

-- 3: an exponent without digits
theorem bend3 (a b : ByteArray) (ha : Digits a.data.toList) (_ : Digits b.data.toList) (h48 : ch a.data.toList 0 ≠ 48) :
    Bend (a ++ (⟨#[101]⟩ : ByteArray) ++ (⟨#[32]⟩ : ByteArray)) := by
  have e : (a ++ (⟨#[101]⟩ : ByteArray) ++ (⟨#[32]⟩ : ByteArray)).data.toList = a.data.toList ++ [101, 32] := by simp
  have hz : (a ++ (⟨#[101]⟩ : ByteArray) ++ (⟨#[32]⟩ : ByteArray)).size = a.data.toList.length + 2 := by rw [← len_data, e]; simp
  have hl := ha.2.1
  have hp := ha.pos
  obtain ⟨q1, q2, q3, q4⟩ := ahead a ha h48 [101, 32]
  have p0 := q2 0
  have p1 := q2 1
  rw [Nat.add_zero, show ch [101, 32] 0 = 101 by decide] at p0
  rw [show ch [101, 32] 1 = 32 by decide] at p1
  rw [← e] at q1 q3 q4 p0 p1
  refine bend_num _ (by rw [e]; exact ha.clean.append (clean_cons (by decide) (clean_cons (by decide) clean_nil))) (by omega) (by omega) _ rfl (.inr q4) ?_ ?_
  · intro W p b n cap hS hn he hn2
    exact num_exp hS hn2 he 0 _ hp q1 _ rfl q3 p0 (by rw [p1]; unfold Digit; decide) (by rw [p1]; decide) (by rw [p1]; decide)
  · intro W g hc
    exact numeral_exp hc (by omega) 0 _ hp (by omega) q3 q1 p0 (by rw [p1]; unfold Digit; decide) (by rw [p1]; decide) (by rw [p1]; decide)

-- 4: a point with digits, an exponent's sign without digits
theorem bend4 (a b : ByteArray) (ha : Digits a.data.toList) (hb : Digits b.data.toList) (h48 : ch a.data.toList 0 ≠ 48) :
    Bend (a ++ (⟨#[46]⟩ : ByteArray) ++ b ++ (⟨#[101, 43]⟩ : ByteArray) ++ (⟨#[32]⟩ : ByteArray)) := by
  have e : (a ++ (⟨#[46]⟩ : ByteArray) ++ b ++ (⟨#[101, 43]⟩ : ByteArray) ++ (⟨#[32]⟩ : ByteArray)).data.toList = a.data.toList ++ (46 :: (b.data.toList ++ [101, 43, 32])) := by simp
  have hz : (a ++ (⟨#[46]⟩ : ByteArray) ++ b ++ (⟨#[101, 43]⟩ : ByteArray) ++ (⟨#[32]⟩ : ByteArray)).size = a.data.toList.length + b.data.toList.length + 4 := by rw [← len_data, e]; simp; omega
  have hl := ha.2.1
  have hl2 := hb.2.1
  have hp := ha.pos
  have hp2 := hb.pos
  obtain ⟨q1, q2, q3, q4⟩ := ahead a ha h48 (46 :: (b.data.toList ++ [101, 43, 32]))
  have p0 := q2 0
  rw [Nat.add_zero, ch_zero] at p0
  have r1 : ∀ j, a.data.toList.length + 1 ≤ j → j < a.data.toList.length + 1 + b.data.toList.length → Digit (ch (a.data.toList ++ (46 :: (b.data.toList ++ [101, 43, 32]))) j) := fun j h1 h2 => by
    rw [show j = a.data.toList.length + (j - a.data.toList.length - 1 + 1) by omega, q2, ch_cons, ch_left (by omega)]
    exact hb.2.2 _ (by omega)
  have r2 : ∀ k, ch (a.data.toList ++ (46 :: (b.data.toList ++ [101, 43, 32]))) (a.data.toList.length + 1 + b.data.toList.length + k) = ch [101, 43, 32] k := fun k => by
    rw [show a.data.toList.length + 1 + b.data.toList.length + k = a.data.toList.length + (b.data.toList.length + k + 1) by omega, q2, ch_cons, ch_right]
  have p2 := r2 0
  have p3 := r2 1
  have p4 := r2 2
  rw [Nat.add_zero, show ch [101, 43, 32] 0 = 101 by decide] at p2
  rw [show ch [101, 43, 32] 1 = 43 by decide] at p3
  rw [show ch [101, 43, 32] 2 = 32 by decide] at p4
  rw [← e] at q1 q3 q4 p0 r1 p2 p3 p4
  refine bend_num _ (by rw [e]; exact ha.clean.append (clean_cons (by decide) (hb.clean.append (clean_cons (by decide) (clean_cons (by decide) (clean_cons (by decide) clean_nil)))))) (by omega) (by omega) _ rfl (.inr q4) ?_ ?_
  · intro W p bb n cap hS hn he hn2
    exact num_frac_plus hS hn2 he 0 _ _ hp (by omega) q1 _ rfl q3 p0 r1 p2 p3 (by rw [p4]; unfold Digit; decide)
  · intro W g hc
    exact numeral_frac_plus hc (by omega) 0 _ _ hp (by omega) (by omega) q3 q1 p0 r1 p2 p3 (by rw [p4]; unfold Digit; decide)

-- 5: a plus sign ahead
theorem bend5 (a b : ByteArray) (ha : Digits a.data.toList) (_ : Digits b.data.toList) (_ : ch a.data.toList 0 ≠ 48) :
    Bend ((⟨#[43]⟩ : ByteArray) ++ a ++ (⟨#[32]⟩ : ByteArray)) := by
  have e : ((⟨#[43]⟩ : ByteArray) ++ a ++ (⟨#[32]⟩ : ByteArray)).data.toList = 43 :: (a.data.toList ++ [32]) := by simp
  have hz : ((⟨#[43]⟩ : ByteArray) ++ a ++ (⟨#[32]⟩ : ByteArray)).size = a.data.toList.length + 2 := by rw [← len_data, e]; simp
  have hl := ha.2.1
  have hcl : Clean ((⟨#[43]⟩ : ByteArray) ++ a ++ (⟨#[32]⟩ : ByteArray)).data.toList := by rw [e]; exact clean_cons (by decide) (ha.clean.append (clean_cons (by decide) clean_nil))
  have e0 : ch ((⟨#[43]⟩ : ByteArray) ++ a ++ (⟨#[32]⟩ : ByteArray)).data.toList 0 = 43 := by rw [e, ch_zero]; rfl
  refine bend_of _ hcl (by omega) (by omega) ?_ ?_
  · intro W p bb n cap hS hn
    exact tok_bad hS hn 0 0 (by omega) (skips_of e0 (by decide)) hcl.noEnds 43 e0 (by omega)
  · intro w g hx
    exact token_other hx (by omega) (by omega) 43 e0 (by omega) (by unfold Sign; omega) (by unfold Begin; omega) (by omega) (by unfold Digit; omega) (by omega) (by omega) 0 (by omega) (by rw [show 0 + 0 = 0 by rfl, e0]; omega)

-- 6: a point ahead
theorem bend6 (a b : ByteArray) (_ : Digits a.data.toList) (hb : Digits b.data.toList) (_ : ch a.data.toList 0 ≠ 48) :
    Bend ((⟨#[46]⟩ : ByteArray) ++ b ++ (⟨#[32]⟩ : ByteArray)) := by
  have e : ((⟨#[46]⟩ : ByteArray) ++ b ++ (⟨#[32]⟩ : ByteArray)).data.toList = 46 :: (b.data.toList ++ [32]) := by simp
  have hz : ((⟨#[46]⟩ : ByteArray) ++ b ++ (⟨#[32]⟩ : ByteArray)).size = b.data.toList.length + 2 := by rw [← len_data, e]; simp
  have hl := hb.2.1
  have hcl : Clean ((⟨#[46]⟩ : ByteArray) ++ b ++ (⟨#[32]⟩ : ByteArray)).data.toList := by rw [e]; exact clean_cons (by decide) (hb.clean.append (clean_cons (by decide) clean_nil))
  have e0 : ch ((⟨#[46]⟩ : ByteArray) ++ b ++ (⟨#[32]⟩ : ByteArray)).data.toList 0 = 46 := by rw [e, ch_zero]; rfl
  have e1 : ch ((⟨#[46]⟩ : ByteArray) ++ b ++ (⟨#[32]⟩ : ByteArray)).data.toList (0 + 1) ≠ 46 := by
    rw [e, ch_cons, ch_left hb.pos]
    have := hb.at0
    unfold Digit at this
    omega
  refine bend_of _ hcl (by omega) (by omega) ?_ ?_
  · intro W p bb n cap hS hn
    exact tok_dot hS hn 0 0 (by omega) (skips_of e0 (by decide)) hcl.noEnds e0 e1
  · intro w g hx
    exact token_other hx (by omega) (by omega) 46 e0 (by omega) (by unfold Sign; omega) (by unfold Begin; omega) (by omega) (by unfold Digit; omega) (by omega) (by omega) 1 (by omega) e1

-- 7: a point with an exponent behind it
theorem bend7 (a b : ByteArray) (ha : Digits a.data.toList) (hb : Digits b.data.toList) (h48 : ch a.data.toList 0 ≠ 48) :
    Bend (a ++ (⟨#[46, 101]⟩ : ByteArray) ++ b ++ (⟨#[32]⟩ : ByteArray)) := by
  have e : (a ++ (⟨#[46, 101]⟩ : ByteArray) ++ b ++ (⟨#[32]⟩ : ByteArray)).data.toList = a.data.toList ++ (46 :: 101 :: (b.data.toList ++ [32])) := by simp
  have hz : (a ++ (⟨#[46, 101]⟩ : ByteArray) ++ b ++ (⟨#[32]⟩ : ByteArray)).size = a.data.toList.length + b.data.toList.length + 3 := by rw [← len_data, e]; simp; omega
  have hl := ha.2.1
  have hl2 := hb.2.1
  have hp := ha.pos
  obtain ⟨q1, q2, q3, q4⟩ := ahead a ha h48 (46 :: 101 :: (b.data.toList ++ [32]))
  have p0 := q2 0
  have p1 := q2 1
  rw [Nat.add_zero, ch_zero] at p0
  rw [show (1 : Nat) = 0 + 1 by rfl, ch_cons, ch_zero] at p1
  rw [← e] at q1 q3 q4 p0 p1
  refine bend_num _ (by rw [e]; exact ha.clean.append (clean_cons (by decide) (clean_cons (by decide) (hb.clean.append (clean_cons (by decide) clean_nil))))) (by omega) (by omega) _ rfl (.inr q4) ?_ ?_
  · intro W p bb n cap hS hn he hn2
    exact num_point hS hn2 he 0 _ hp q1 _ rfl q3 p0 (by rw [p1]; unfold Digit; decide)
  · intro W g hc
    exact numeral_point hc (by omega) 0 _ hp (by omega) q3 q1 p0 (by rw [p1]; unfold Digit; decide)

-- 8: a minus sign and a nought ahead
theorem bend8 (a b : ByteArray) (ha : Digits a.data.toList) (_ : Digits b.data.toList) (_ : ch a.data.toList 0 ≠ 48) :
    Bend ((⟨#[45, 48]⟩ : ByteArray) ++ a ++ (⟨#[32]⟩ : ByteArray)) := by
  have e : ((⟨#[45, 48]⟩ : ByteArray) ++ a ++ (⟨#[32]⟩ : ByteArray)).data.toList = 45 :: 48 :: (a.data.toList ++ [32]) := by simp
  have hz : ((⟨#[45, 48]⟩ : ByteArray) ++ a ++ (⟨#[32]⟩ : ByteArray)).size = a.data.toList.length + 3 := by rw [← len_data, e]; simp
  have hl := ha.2.1
  have hp := ha.pos
  have hin : ∀ j, j < a.data.toList.length → Digit (ch (45 :: 48 :: (a.data.toList ++ [32])) (j + 2)) := fun j hj => by rw [show j + 2 = j + 1 + 1 by rfl, ch_cons, ch_cons, ch_left hj]; exact ha.2.2 j hj
  have h1 : ch (45 :: 48 :: (a.data.toList ++ [32])) 1 = 48 := by rw [show (1 : Nat) = 0 + 1 by rfl, ch_cons, ch_zero]; rfl
  have hd : ∀ j, 1 ≤ j → j < a.data.toList.length + 2 → Digit (ch (45 :: 48 :: (a.data.toList ++ [32])) j) := fun j hj0 hj => by
    match j, hj0, hj with
    | 1, _, _ => rw [h1]; unfold Digit; decide
    | j + 2, _, hj => exact hin j (by omega)
  have hout : ¬ Digit (ch (45 :: 48 :: (a.data.toList ++ [32])) (a.data.toList.length + 2)) := by rw [show a.data.toList.length + 2 = a.data.toList.length + 1 + 1 by rfl, ch_cons, ch_cons, ch_at (Nat.le_refl _), Nat.sub_self, ch_zero]; unfold Digit; decide
  refine bend_num _ (by rw [e]; exact clean_cons (by decide) (clean_cons (by decide) (ha.clean.append (clean_cons (by decide) clean_nil)))) (by omega) (by omega) 45 (by rw [e, ch_zero]; rfl) (by omega) ?_ ?_
  · intro W p b n cap hS hn he hn2
    exact num_minus_nought hS hn2 he 0 (by rw [e]; exact h1) (by rw [e]; exact hin 0 hp)
  · intro W g hc
    exact numeral_minus_nought hc (by omega) 0 (a.data.toList.length + 2) (by omega) (by omega) (by rw [e, ch_zero]; rfl) (by rw [e]; exact h1) (fun j h1 hj => by rw [e]; exact hd j h1 hj) (by rw [e]; exact hout)

-- 9: an exponent's minus sign without digits
theorem bend9 (a b : ByteArray) (ha : Digits a.data.toList) (_ : Digits b.data.toList) (h48 : ch a.data.toList 0 ≠ 48) :
    Bend (a ++ (⟨#[69, 45]⟩ : ByteArray) ++ (⟨#[32]⟩ : ByteArray)) := by
  have e : (a ++ (⟨#[69, 45]⟩ : ByteArray) ++ (⟨#[32]⟩ : ByteArray)).data.toList = a.data.toList ++ [69, 45, 32] := by simp
  have hz : (a ++ (⟨#[69, 45]⟩ : ByteArray) ++ (⟨#[32]⟩ : ByteArray)).size = a.data.toList.length + 3 := by rw [← len_data, e]; simp
  have hl := ha.2.1
  have hp := ha.pos
  obtain ⟨q1, q2, q3, q4⟩ := ahead a ha h48 [69, 45, 32]
  have p0 := q2 0
  have p1 := q2 1
  have p2 := q2 2
  rw [Nat.add_zero, show ch [69, 45, 32] 0 = 69 by decide] at p0
  rw [show ch [69, 45, 32] 1 = 45 by decide] at p1
  rw [show ch [69, 45, 32] 2 = 32 by decide] at p2
  rw [← e] at q1 q3 q4 p0 p1 p2
  refine bend_num _ (by rw [e]; exact ha.clean.append (clean_cons (by decide) (clean_cons (by decide) (clean_cons (by decide) clean_nil)))) (by omega) (by omega) _ rfl (.inr q4) ?_ ?_
  · intro W p b n cap hS hn he hn2
    exact num_exp_minus hS hn2 he 0 _ hp q1 _ rfl q3 p0 p1 (by rw [p2]; unfold Digit; decide)
  · intro W g hc
    exact numeral_exp_minus hc (by omega) 0 _ hp (by omega) q3 q1 p0 p1 (by rw [p2]; unfold Digit; decide)

end Go.Proofs.YthmdgegaejanaaaGreatDoor
