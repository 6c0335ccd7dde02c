/- PLAIN WORDS ON A TEXT OF ASCII: the code at a place (-1 behind its end), what is passed over between tokens, a name's letters. -/
import Derived.Lib.SlBytesRow
namespace Go.Proofs.YtannihddhebcpaaGreatDoor

/-- The code at place i; -1 behind the end. -/
def ch (l : List UInt8) (i : Nat) : Int := if i < l.length then ((l.getD i 0).toNat : Int) else -1
/-- How wide it is. -/
def cw (l : List UInt8) (i : Nat) : Int := if i < l.length then 1 else 65533
def Ascii (l : List UInt8) : Prop := ∀ c ∈ l, c.toNat < 128

theorem ch_end {l : List UInt8} {i : Nat} (h : l.length ≤ i) : ch l i = -1 := by unfold ch; rw [if_neg (by omega)]
theorem cw_in {l : List UInt8} {i : Nat} (h : i < l.length) : cw l i = 1 := by unfold cw; rw [if_pos h]
theorem ch_get {l : List UInt8} {i : Nat} (h : i < l.length) : ch l i = ((l[i]).toNat : Int) := by
  unfold ch; rw [if_pos h]; simp [List.getD, List.getElem?_eq_getElem h]
theorem ch_in {l : List UInt8} (ha : Ascii l) {i : Nat} (h : i < l.length) : 0 ≤ ch l i ∧ ch l i < 128 := by
  rw [ch_get h]
  have := ha _ (List.getElem_mem h)
  omega
theorem ch_all {l : List UInt8} (ha : Ascii l) (i : Nat) : -1 ≤ ch l i ∧ ch l i < 128 := by
  by_cases h : i < l.length
  · have := ch_in ha h; omega
  · rw [ch_end (by omega)]; omega
theorem ch_lt {l : List UInt8} {i : Nat} (h : 0 ≤ ch l i) : i < l.length := by
  by_cases h' : i < l.length
  · exact h'
  · rw [ch_end (by omega)] at h; omega
theorem ch_ge {l : List UInt8} {i : Nat} (h : ch l i < 0) : l.length ≤ i := by
  by_cases h' : i < l.length
  · rw [ch_get h'] at h; omega
  · omega

def White (c : Int) : Prop := c = 9 ∨ c = 32 ∨ c = 10 ∨ c = 13 ∨ c = 44
def InC (c : Int) : Prop := 31 < c ∨ c = 9

/-- From place p on what is passed over ends at q. -/
inductive Skips (l : List UInt8) : Nat → Nat → Prop
  | stop (p : Nat) (h : ¬ White (ch l p)) (h' : ch l p ≠ 35) : Skips l p p
  | white (p q : Nat) (h : White (ch l p)) (r : Skips l (p + 1) q) : Skips l p q
  | comment (p r q : Nat) (h : ch l p = 35) (hr : p < r) (hin : ∀ i, p < i → i < r → InC (ch l i)) (hout : ¬ InC (ch l r)) (s : Skips l r q) : Skips l p q

theorem Skips.atEnd {l : List UInt8} {p q : Nat} (h : Skips l p q) (hp : l.length ≤ p) : q = p := by
  have e := ch_end hp
  cases h with
  | stop => rfl
  | white _ _ h => rw [e] at h; unfold White at h; omega
  | comment _ _ _ h => rw [e] at h; omega

def NameChar (c : Int) : Prop := c = 95 ∨ (48 ≤ c ∧ c ≤ 57) ∨ (65 ≤ c ∧ c ≤ 90) ∨ (97 ≤ c ∧ c ≤ 122)
def Digit (c : Int) : Prop := 48 ≤ c ∧ c ≤ 57

end Go.Proofs.YtannihddhebcpaaGreatDoor
