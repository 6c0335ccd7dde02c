/- THE REFERENCE's LEXER: 'starts', and regions that draw behind regions that draw. -/
import Derived.Test.YthmdgegaejanaaaGreatDoorSpecA
import Derived.Deep.QuietTactic
import Derived.BigQuiet
namespace Go.Proofs.YthmdgegaejanaaaGreatDoor
open Go.RowKit

theorem quiet_add_left {P : Program} {f : FuncId} {args : Array Value} {w : World} {a n : Nat} {v : Value}
    (h : Calls P f args (w.drewN (a + n)) fun e w' => e = .returned v ∧ w.drewN (a + n) = w') :
    Calls P f args (w.drewN (a + n)) fun e w'' => e = .returned v ∧ ∃ m, w'' = w.drewN (a + m) :=
  h.mono fun _ _ ⟨he, hm⟩ => ⟨he, n, hm.symm⟩
theorem quiet_left {P : Program} {f : FuncId} {args : Array Value} {w : World} {n : Nat} {v : Value}
    (h : Calls P f args (w.drewN n) fun e w' => e = .returned v ∧ w.drewN n = w') : Calls P f args (w.drewN n) fun e w'' => e = .returned v ∧ ∃ m, w'' = w.drewN m :=
  h.mono fun _ _ ⟨he, hm⟩ => ⟨he, n, hm.symm⟩

set_option maxHeartbeats 1600000 in
set_option maxRecDepth 100000 in
/-- Another text of three bytes stands there. -/
theorem starts_no (s t : ByteArray) (i : Nat) (w : World) (hn : s.size ≤ 4611686018427387904) (hi : i < s.size) (ht : t.size = 3) (hne : ch s.data.toList i ≠ ch t.data.toList 0) :
    Calls Tryz.prog 33 #[.string s, .int .i64 (i : Int), .string t] w fun x w' => x = .returned (.bool false) ∧ w = w' := by
  by_cases h : i + 3 ≤ s.size
  · have hx : ¬ (s.extract i (i + 3)).toList = t.toList := by
      rw [Lib.toList_data, Lib.toList_data, Lib.extract_data]
      intro e
      apply hne
      rw [← e, ch_get (by rw [len_data]; omega), ch_get (by rw [List.length_take, List.length_drop, len_data]; omega)]
      simp
    have hx2 : ((s.extract i (i + 3)).toList == t.toList) = false := by simpa using hx
    go_enter Tryz.func33, Tryz.ntmps33
    go_wp2
    go_ret
    exact ⟨rfl, rfl⟩
  · go_enter Tryz.func33, Tryz.ntmps33
    go_wp2
    go_ret
    exact ⟨rfl, rfl⟩

def Sign (c : Int) : Prop := c = 33 ∨ c = 36 ∨ c = 38 ∨ c = 40 ∨ c = 41 ∨ c = 58 ∨ c = 61 ∨ c = 64 ∨ c = 91 ∨ c = 93 ∨ c = 123 ∨ c = 124 ∨ c = 125
set_option maxHeartbeats 1600000 in
set_option maxRecDepth 100000 in
theorem sign_no (c : Int) (w : World) (h : ¬ Sign c) : Calls Tryz.prog 36 #[.int .u8 c] w fun x w' => x = .returned (.int .i64 0) ∧ w = w' := by
  unfold Sign at h
  have b33 : (c == 33) = false := by simp; omega
  have b36 : (c == 36) = false := by simp; omega
  have b38 : (c == 38) = false := by simp; omega
  have b40 : (c == 40) = false := by simp; omega
  have b41 : (c == 41) = false := by simp; omega
  have b58 : (c == 58) = false := by simp; omega
  have b61 : (c == 61) = false := by simp; omega
  have b64 : (c == 64) = false := by simp; omega
  have b91 : (c == 91) = false := by simp; omega
  have b93 : (c == 93) = false := by simp; omega
  have b123 : (c == 123) = false := by simp; omega
  have b124 : (c == 124) = false := by simp; omega
  have b125 : (c == 125) = false := by simp; omega
  clear h
  go_enter Tryz.func36, Tryz.ntmps36
  go_wp2
  go_ret
  exact ⟨rfl, rfl⟩
theorem sign_33 (w : World) : Calls Tryz.prog 36 #[.int .u8 33] w fun x w' => x = .returned (.int .i64 2) ∧ w = w' := by
  go_enter Tryz.func36, Tryz.ntmps36
  go_wp2
  go_ret
  exact ⟨rfl, rfl⟩
theorem sign_36 (w : World) : Calls Tryz.prog 36 #[.int .u8 36] w fun x w' => x = .returned (.int .i64 3) ∧ w = w' := by
  go_enter Tryz.func36, Tryz.ntmps36
  go_wp2
  go_ret
  exact ⟨rfl, rfl⟩
theorem sign_38 (w : World) : Calls Tryz.prog 36 #[.int .u8 38] w fun x w' => x = .returned (.int .i64 20) ∧ w = w' := by
  go_enter Tryz.func36, Tryz.ntmps36
  go_wp2
  go_ret
  exact ⟨rfl, rfl⟩
theorem sign_40 (w : World) : Calls Tryz.prog 36 #[.int .u8 40] w fun x w' => x = .returned (.int .i64 4) ∧ w = w' := by
  go_enter Tryz.func36, Tryz.ntmps36
  go_wp2
  go_ret
  exact ⟨rfl, rfl⟩
theorem sign_41 (w : World) : Calls Tryz.prog 36 #[.int .u8 41] w fun x w' => x = .returned (.int .i64 5) ∧ w = w' := by
  go_enter Tryz.func36, Tryz.ntmps36
  go_wp2
  go_ret
  exact ⟨rfl, rfl⟩
theorem sign_58 (w : World) : Calls Tryz.prog 36 #[.int .u8 58] w fun x w' => x = .returned (.int .i64 7) ∧ w = w' := by
  go_enter Tryz.func36, Tryz.ntmps36
  go_wp2
  go_ret
  exact ⟨rfl, rfl⟩
theorem sign_61 (w : World) : Calls Tryz.prog 36 #[.int .u8 61] w fun x w' => x = .returned (.int .i64 8) ∧ w = w' := by
  go_enter Tryz.func36, Tryz.ntmps36
  go_wp2
  go_ret
  exact ⟨rfl, rfl⟩
theorem sign_64 (w : World) : Calls Tryz.prog 36 #[.int .u8 64] w fun x w' => x = .returned (.int .i64 9) ∧ w = w' := by
  go_enter Tryz.func36, Tryz.ntmps36
  go_wp2
  go_ret
  exact ⟨rfl, rfl⟩
theorem sign_91 (w : World) : Calls Tryz.prog 36 #[.int .u8 91] w fun x w' => x = .returned (.int .i64 10) ∧ w = w' := by
  go_enter Tryz.func36, Tryz.ntmps36
  go_wp2
  go_ret
  exact ⟨rfl, rfl⟩
theorem sign_93 (w : World) : Calls Tryz.prog 36 #[.int .u8 93] w fun x w' => x = .returned (.int .i64 11) ∧ w = w' := by
  go_enter Tryz.func36, Tryz.ntmps36
  go_wp2
  go_ret
  exact ⟨rfl, rfl⟩
theorem sign_123 (w : World) : Calls Tryz.prog 36 #[.int .u8 123] w fun x w' => x = .returned (.int .i64 12) ∧ w = w' := by
  go_enter Tryz.func36, Tryz.ntmps36
  go_wp2
  go_ret
  exact ⟨rfl, rfl⟩
theorem sign_124 (w : World) : Calls Tryz.prog 36 #[.int .u8 124] w fun x w' => x = .returned (.int .i64 13) ∧ w = w' := by
  go_enter Tryz.func36, Tryz.ntmps36
  go_wp2
  go_ret
  exact ⟨rfl, rfl⟩
theorem sign_125 (w : World) : Calls Tryz.prog 36 #[.int .u8 125] w fun x w' => x = .returned (.int .i64 14) ∧ w = w' := by
  go_enter Tryz.func36, Tryz.ntmps36
  go_wp2
  go_ret
  exact ⟨rfl, rfl⟩

/-- What the reference's lexer holds. -/
def Lx (w : World) (g : Nat) (s : ByteArray) (i : Int) (out : Value) (bad unsure : Bool) : Prop := Blk w g 56 #[.string s, .int .i64 i, out, .bool bad, .bool unsure]

section
variable {w : World} {g : Nat} {s : ByteArray} {i : Int} {out : Value} {bad unsure : Bool}
theorem Lx.cells (h : Lx w g s i out bad unsure) : w.cell? ⟨g, 0, none⟩ = some (.string s) ∧ w.cell? ⟨g, 1, none⟩ = some (.int .i64 i) ∧ w.cell? ⟨g, 2, none⟩ = some out ∧ w.cell? ⟨g, 3, none⟩ = some (.bool bad) ∧ w.cell? ⟨g, 4, none⟩ = some (.bool unsure) :=
  ⟨by rw [Blk.cell h]; rfl, by rw [Blk.cell h]; rfl, by rw [Blk.cell h]; rfl, by rw [Blk.cell h]; rfl, by rw [Blk.cell h]; rfl⟩
theorem Lx.drewN (h : Lx w g s i out bad unsure) (k : Nat) : Lx (w.drewN k) g s i out bad unsure := h
theorem Lx.fail (h : Lx w g s i out bad unsure) : Lx (w.setCell ⟨g, 3, none⟩ (.bool true)) g s i out true unsure := by
  have := Blk.set_ h 3 (.bool true)
  simpa [Lx] using this
theorem Lx.goto_ (h : Lx w g s i out bad unsure) (j : Int) : Lx (w.setCell ⟨g, 1, none⟩ (.int .i64 j)) g s j out bad unsure := by
  have := Blk.set_ h 1 (.int .i64 j)
  simpa [Lx] using this
theorem Lx.unsure_ (h : Lx w g s i out bad unsure) : Lx (w.setCell ⟨g, 4, none⟩ (.bool true)) g s i out bad true := by
  have := Blk.set_ h 4 (.bool true)
  simpa [Lx] using this
end

set_option maxHeartbeats 1600000 in
set_option maxRecDepth 100000 in
/-- number, where no numeral stands. -/
theorem number_bad {w : World} {g : Nat} {s : ByteArray} {i : Int} {out : Value} {unsure : Bool} (hx : Lx w g s i out false unsure)
    (hN : Calls Tryz.prog 54 #[.pointer (some ⟨g, 0, none⟩), .int .i64 i] w fun x w' => x = .returned (.tuple #[.int .i64 0, .int .i64 0]) ∧ w = w') :
    Calls Tryz.prog 40 #[.pointer (some ⟨g, 0, none⟩)] w fun x w' => x = .returned (.tuple #[]) ∧ w.setCell ⟨g, 3, none⟩ (.bool true) = w' := by
  obtain ⟨c0, c1, c2, c3, c4⟩ := hx.cells
  have f3 := Blk.frozen hx 3
  have HN := Lib.hid hN
  clear hN
  go_enter Tryz.func40, Tryz.ntmps40
  go_wp2_with fail
  refine HN.out.mono ?_
  rintro x w' ⟨rfl, rfl⟩
  go_wp2
  go_returns
  exact ⟨rfl, rfl⟩

end Go.Proofs.YthmdgegaejanaaaGreatDoor
