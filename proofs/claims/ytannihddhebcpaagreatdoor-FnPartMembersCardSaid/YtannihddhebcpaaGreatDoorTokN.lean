/- ONE TOKEN (readToken): a name, whatever it begins with. -/
import Derived.Test.YtannihddhebcpaaGreatDoorTokB
import Derived.Test.YtannihddhebcpaaGreatDoorTokC
import Derived.Test.YtannihddhebcpaaGreatDoorTokD
import Derived.Test.YtannihddhebcpaaGreatDoorTokE
namespace Go.Proofs.YtannihddhebcpaaGreatDoor
open Go.RowKit

def NameStart (c : Int) : Prop := c = 95 ∨ (65 ≤ c ∧ c ≤ 90) ∨ (97 ≤ c ∧ c ≤ 122)

theorem tok_name {w : World} {p b n cap : Nat} {l : List UInt8} (hS : Src w p b n cap l) (hn : n ≤ 4611686018427387904) (i q e : Nat) (hi : i ≤ n) (hs : Skips l i q)
    (hqe : q < e) (hen : e ≤ n) (hin : ∀ j, q < j → j < e → NameChar (ch l j)) (hout : ¬ NameChar (ch l e)) (hc : NameStart (ch l q)) :
    Calls Tryz.prog 133 #[.pointer (some ⟨p, 0, none⟩), .int .i64 (i : Int)] w fun x w' =>
      x = .returned (.tuple #[.agg #[.int .i64 15, .int .i64 q, .int .i64 e, .string (sub l q e)], .nilIface]) ∧ Below w.heap.size w w' := by
  unfold NameStart at hc
  by_cases h : ch l q = 65
  · exact tok_c65 hS hn i q e hi hs hqe hen hin hout h
  have h65 := h; clear h
  by_cases h : ch l q = 66
  · exact tok_c66 hS hn i q e hi hs hqe hen hin hout h
  have h66 := h; clear h
  by_cases h : ch l q = 67
  · exact tok_c67 hS hn i q e hi hs hqe hen hin hout h
  have h67 := h; clear h
  by_cases h : ch l q = 68
  · exact tok_c68 hS hn i q e hi hs hqe hen hin hout h
  have h68 := h; clear h
  by_cases h : ch l q = 69
  · exact tok_c69 hS hn i q e hi hs hqe hen hin hout h
  have h69 := h; clear h
  by_cases h : ch l q = 70
  · exact tok_c70 hS hn i q e hi hs hqe hen hin hout h
  have h70 := h; clear h
  by_cases h : ch l q = 71
  · exact tok_c71 hS hn i q e hi hs hqe hen hin hout h
  have h71 := h; clear h
  by_cases h : ch l q = 72
  · exact tok_c72 hS hn i q e hi hs hqe hen hin hout h
  have h72 := h; clear h
  by_cases h : ch l q = 73
  · exact tok_c73 hS hn i q e hi hs hqe hen hin hout h
  have h73 := h; clear h
  by_cases h : ch l q = 74
  · exact tok_c74 hS hn i q e hi hs hqe hen hin hout h
  have h74 := h; clear h
  by_cases h : ch l q = 75
  · exact tok_c75 hS hn i q e hi hs hqe hen hin hout h
  have h75 := h; clear h
  by_cases h : ch l q = 76
  · exact tok_c76 hS hn i q e hi hs hqe hen hin hout h
  have h76 := h; clear h
  by_cases h : ch l q = 77
  · exact tok_c77 hS hn i q e hi hs hqe hen hin hout h
  have h77 := h; clear h
  by_cases h : ch l q = 78
  · exact tok_c78 hS hn i q e hi hs hqe hen hin hout h
  have h78 := h; clear h
  by_cases h : ch l q = 79
  · exact tok_c79 hS hn i q e hi hs hqe hen hin hout h
  have h79 := h; clear h
  by_cases h : ch l q = 80
  · exact tok_c80 hS hn i q e hi hs hqe hen hin hout h
  have h80 := h; clear h
  by_cases h : ch l q = 81
  · exact tok_c81 hS hn i q e hi hs hqe hen hin hout h
  have h81 := h; clear h
  by_cases h : ch l q = 82
  · exact tok_c82 hS hn i q e hi hs hqe hen hin hout h
  have h82 := h; clear h
  by_cases h : ch l q = 83
  · exact tok_c83 hS hn i q e hi hs hqe hen hin hout h
  have h83 := h; clear h
  by_cases h : ch l q = 84
  · exact tok_c84 hS hn i q e hi hs hqe hen hin hout h
  have h84 := h; clear h
  by_cases h : ch l q = 85
  · exact tok_c85 hS hn i q e hi hs hqe hen hin hout h
  have h85 := h; clear h
  by_cases h : ch l q = 86
  · exact tok_c86 hS hn i q e hi hs hqe hen hin hout h
  have h86 := h; clear h
  by_cases h : ch l q = 87
  · exact tok_c87 hS hn i q e hi hs hqe hen hin hout h
  have h87 := h; clear h
  by_cases h : ch l q = 88
  · exact tok_c88 hS hn i q e hi hs hqe hen hin hout h
  have h88 := h; clear h
  by_cases h : ch l q = 89
  · exact tok_c89 hS hn i q e hi hs hqe hen hin hout h
  have h89 := h; clear h
  by_cases h : ch l q = 90
  · exact tok_c90 hS hn i q e hi hs hqe hen hin hout h
  have h90 := h; clear h
  by_cases h : ch l q = 95
  · exact tok_c95 hS hn i q e hi hs hqe hen hin hout h
  have h95 := h; clear h
  by_cases h : ch l q = 97
  · exact tok_c97 hS hn i q e hi hs hqe hen hin hout h
  have h97 := h; clear h
  by_cases h : ch l q = 98
  · exact tok_c98 hS hn i q e hi hs hqe hen hin hout h
  have h98 := h; clear h
  by_cases h : ch l q = 99
  · exact tok_c99 hS hn i q e hi hs hqe hen hin hout h
  have h99 := h; clear h
  by_cases h : ch l q = 100
  · exact tok_c100 hS hn i q e hi hs hqe hen hin hout h
  have h100 := h; clear h
  by_cases h : ch l q = 101
  · exact tok_c101 hS hn i q e hi hs hqe hen hin hout h
  have h101 := h; clear h
  by_cases h : ch l q = 102
  · exact tok_c102 hS hn i q e hi hs hqe hen hin hout h
  have h102 := h; clear h
  by_cases h : ch l q = 103
  · exact tok_c103 hS hn i q e hi hs hqe hen hin hout h
  have h103 := h; clear h
  by_cases h : ch l q = 104
  · exact tok_c104 hS hn i q e hi hs hqe hen hin hout h
  have h104 := h; clear h
  by_cases h : ch l q = 105
  · exact tok_c105 hS hn i q e hi hs hqe hen hin hout h
  have h105 := h; clear h
  by_cases h : ch l q = 106
  · exact tok_c106 hS hn i q e hi hs hqe hen hin hout h
  have h106 := h; clear h
  by_cases h : ch l q = 107
  · exact tok_c107 hS hn i q e hi hs hqe hen hin hout h
  have h107 := h; clear h
  by_cases h : ch l q = 108
  · exact tok_c108 hS hn i q e hi hs hqe hen hin hout h
  have h108 := h; clear h
  by_cases h : ch l q = 109
  · exact tok_c109 hS hn i q e hi hs hqe hen hin hout h
  have h109 := h; clear h
  by_cases h : ch l q = 110
  · exact tok_c110 hS hn i q e hi hs hqe hen hin hout h
  have h110 := h; clear h
  by_cases h : ch l q = 111
  · exact tok_c111 hS hn i q e hi hs hqe hen hin hout h
  have h111 := h; clear h
  by_cases h : ch l q = 112
  · exact tok_c112 hS hn i q e hi hs hqe hen hin hout h
  have h112 := h; clear h
  by_cases h : ch l q = 113
  · exact tok_c113 hS hn i q e hi hs hqe hen hin hout h
  have h113 := h; clear h
  by_cases h : ch l q = 114
  · exact tok_c114 hS hn i q e hi hs hqe hen hin hout h
  have h114 := h; clear h
  by_cases h : ch l q = 115
  · exact tok_c115 hS hn i q e hi hs hqe hen hin hout h
  have h115 := h; clear h
  by_cases h : ch l q = 116
  · exact tok_c116 hS hn i q e hi hs hqe hen hin hout h
  have h116 := h; clear h
  by_cases h : ch l q = 117
  · exact tok_c117 hS hn i q e hi hs hqe hen hin hout h
  have h117 := h; clear h
  by_cases h : ch l q = 118
  · exact tok_c118 hS hn i q e hi hs hqe hen hin hout h
  have h118 := h; clear h
  by_cases h : ch l q = 119
  · exact tok_c119 hS hn i q e hi hs hqe hen hin hout h
  have h119 := h; clear h
  by_cases h : ch l q = 120
  · exact tok_c120 hS hn i q e hi hs hqe hen hin hout h
  have h120 := h; clear h
  by_cases h : ch l q = 121
  · exact tok_c121 hS hn i q e hi hs hqe hen hin hout h
  have h121 := h; clear h
  by_cases h : ch l q = 122
  · exact tok_c122 hS hn i q e hi hs hqe hen hin hout h
  have h122 := h; clear h
  exfalso; omega

end Go.Proofs.YtannihddhebcpaaGreatDoor
