/- ONE TOKEN (readToken): numbers, over readNumber's contract. -/
import Derived.Test.YthmdgegaejanaaaGreatDoorTokM1
import Derived.Test.YthmdgegaejanaaaGreatDoorTokM2
import Derived.Test.YthmdgegaejanaaaGreatDoorTokM3
namespace Go.Proofs.YthmdgegaejanaaaGreatDoor
open Go.RowKit

theorem tok_num {w : World} {p b n cap : Nat} {l : List UInt8} (hS : Src w p b n cap l) (hn : n ≤ 4611686018427387904) (i q : Nat) (hi : i ≤ n) (hs : Skips l i q) (k : Int) (s e : Nat) (v : ByteArray) (bad : Bool) (c : Int) (hc : ch l q = c) (h : c = 45 ∨ (48 ≤ c ∧ c ≤ 57))
    (hN : ∀ W : World, Src W p b n cap l → Calls Tryz.prog 30 #[.pointer (some ⟨p, 0, none⟩), .int .i64 (q : Int), .int .i32 c, .int .i64 1] W fun x w' => Res k s e v bad x ∧ Below W.heap.size W w') :
    Calls Tryz.prog 23 #[.pointer (some ⟨p, 0, none⟩), .int .i64 (i : Int)] w fun x w' => Res k s e v bad x ∧ Below w.heap.size w w' := by
  by_cases h45 : c = 45
  · subst h45
    exact tok_n45 hS hn i q hi hs k s e v bad hc hN
  by_cases h48 : c = 48
  · subst h48
    exact tok_n48 hS hn i q hi hs k s e v bad hc hN
  by_cases h49 : c = 49
  · subst h49
    exact tok_n49 hS hn i q hi hs k s e v bad hc hN
  by_cases h50 : c = 50
  · subst h50
    exact tok_n50 hS hn i q hi hs k s e v bad hc hN
  by_cases h51 : c = 51
  · subst h51
    exact tok_n51 hS hn i q hi hs k s e v bad hc hN
  by_cases h52 : c = 52
  · subst h52
    exact tok_n52 hS hn i q hi hs k s e v bad hc hN
  by_cases h53 : c = 53
  · subst h53
    exact tok_n53 hS hn i q hi hs k s e v bad hc hN
  by_cases h54 : c = 54
  · subst h54
    exact tok_n54 hS hn i q hi hs k s e v bad hc hN
  by_cases h55 : c = 55
  · subst h55
    exact tok_n55 hS hn i q hi hs k s e v bad hc hN
  by_cases h56 : c = 56
  · subst h56
    exact tok_n56 hS hn i q hi hs k s e v bad hc hN
  by_cases h57 : c = 57
  · subst h57
    exact tok_n57 hS hn i q hi hs k s e v bad hc hN
  omega

end Go.Proofs.YthmdgegaejanaaaGreatDoor
