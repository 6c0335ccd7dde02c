/- THE REFERENCE: leading, as one number for each line. -/
import Derived.Test.YthmdgegaejanaaaGreatDoorSpecL
namespace Go.Proofs.YthmdgegaejanaaaGreatDoor
open Go.RowKit

def Bl (c : Int) : Prop := c = 32 ∨ c = 9

theorem lead_some (s : ByteArray) : ∃ n, n ≤ s.size ∧ (∀ j, j < n → Bl (ch s.data.toList j)) ∧ (n < s.size → ¬ Bl (ch s.data.toList n)) := by
  have h : ∀ m, m ≤ s.size → (∀ j, j < m → Bl (ch s.data.toList j)) ∨ ∃ n, n < m ∧ (∀ j, j < n → Bl (ch s.data.toList j)) ∧ ¬ Bl (ch s.data.toList n) := by
    intro m
    induction m with
    | zero => intro _; exact .inl (fun j hj => by omega)
    | succ m ih =>
      intro hm
      rcases ih (by omega) with h | ⟨n, hn, h1, h2⟩
      · by_cases hb : Bl (ch s.data.toList m)
        · refine .inl (fun j hj => ?_)
          by_cases e : j = m
          · rw [e]; exact hb
          · exact h j (by omega)
        · exact .inr ⟨m, by omega, h, hb⟩
      · exact .inr ⟨n, by omega, h1, h2⟩
  rcases h s.size (Nat.le_refl _) with h | ⟨n, hn, h1, h2⟩
  · exact ⟨s.size, Nat.le_refl _, h, fun h => by omega⟩
  · exact ⟨n, by omega, h1, fun _ => h2⟩

set_option maxHeartbeats 1600000 in
set_option maxRecDepth 100000 in
theorem leading_fix (s : ByteArray) (hn : s.size ≤ 4611686018427387904) (n : Nat) (h0 : n ≤ s.size) (h1 : ∀ j, j < n → Bl (ch s.data.toList j)) (h2 : n < s.size → ¬ Bl (ch s.data.toList n)) (w : World) :
    Calls Tryz.prog 72 #[.string s] w fun x w' => x = .returned (.int .i64 (n : Int)) ∧ w = w' := by
  have H1 := Lib.hid h1
  have H2 := Lib.hid h2
  clear h1 h2
  go_enter Tryz.func72, Tryz.ntmps72
  go_wp2_with fail
  go_loop [3] (fun u => ∃ j : Nat, j ≤ n ∧ u = .int .i64 (j : Int)) (fun u => s.size - (intOf u).toNat)
  case atStart => exact ⟨0, by omega, rfl⟩
  case round =>
    obtain ⟨j, hj, rfl⟩ := hrel
    by_cases hlt : j < s.size
    · have hcj := ch_byte s j hlt
      by_cases hjn : j < n
      · have hb := H1.out j hjn
        rw [hcj] at hb
        unfold Bl at hb
        by_cases h32 : (s[j].toNat : Int) = 32
        · have b1 : ((s[j].toNat : Int) == 32) = true := by simpa using h32
          clear hb
          go_wp2_with fail
          go_round
          case rel => exact ⟨j + 1, by omega, by go_num⟩
          case measure => simp [intOf]; omega
        · have b1 : ((s[j].toNat : Int) == 32) = false := by simpa using h32
          have b2 : ((s[j].toNat : Int) == 9) = true := by simp; omega
          clear hb
          go_wp2_with fail
          go_round
          case rel => exact ⟨j + 1, by omega, by go_num⟩
          case measure => simp [intOf]; omega
      · obtain rfl : j = n := by omega
        have hb := H2.out hlt
        rw [hcj] at hb
        unfold Bl at hb
        have b1 : ((s[j].toNat : Int) == 32) = false := by simp; omega
        have b2 : ((s[j].toNat : Int) == 9) = false := by simp; omega
        clear hb
        go_wp2_with fail
        go_ret
        exact ⟨rfl, rfl⟩
    · obtain rfl : j = n := by omega
      go_wp2_with fail
      go_ret
      exact ⟨rfl, rfl⟩

theorem leading_ex (s : ByteArray) (hn : s.size ≤ 4611686018427387904) : ∃ n : Nat, n ≤ s.size ∧ ∀ w, Calls Tryz.prog 72 #[.string s] w fun x w' => x = .returned (.int .i64 (n : Int)) ∧ w = w' := by
  obtain ⟨n, h0, h1, h2⟩ := lead_some s
  exact ⟨n, h0, fun w => leading_fix s hn n h0 h1 h2 w⟩

end Go.Proofs.YthmdgegaejanaaaGreatDoor
