/- THE REFERENCE: common. -/
import Derived.Test.YthmdgegaejanaaaGreatDoorSpecK
import Derived.Test.YthmdgegaejanaaaGreatDoorBlkD
namespace Go.Proofs.YthmdgegaejanaaaGreatDoor
open Go.RowKit

set_option maxHeartbeats 3200000 in
set_option maxRecDepth 100000 in
/-- common: some number from 0 on. -/
theorem common_any {w W : World} {g n cap : Nat} {f : Nat → ByteArray} (hR : Rows_ w W g n cap f) (hf : ∀ i, i < n → (f i).size ≤ 4611686018427387904) (hn : n ≤ 4611686018427387904) :
    Calls Tryz.prog 71 #[.slice (some ⟨g, 0, none⟩) n cap] W fun x w' => (∃ k : Nat, x = .returned (.int .i64 (k : Int))) ∧ W = w' := by
  have HR := Lib.hid hR
  have HF := Lib.hid hf
  clear hR hf
  go_enter Tryz.func71, Tryz.ntmps71
  go_wp2_with fail
  go_loop [3, 4] (fun u v => ∃ (c : Int) (i : Nat), -1 ≤ c ∧ c ≤ 4611686018427387904 ∧ 1 ≤ i ∧ i ≤ n + 1 ∧ u = .int .i64 c ∧ v = .int .i64 (i : Int)) (fun _ v => n - (intOf v).toNat)
  case atStart => exact ⟨-1, 1, by omega, by omega, by omega, by omega, rfl, rfl⟩
  case round =>
    obtain ⟨c, i, hc1, hc2, hi1, hi2, rfl, rfl⟩ := hrel
    by_cases hlt : i < n
    · have hci := HR.out.cell i hlt
      have hsz := HF.out i hlt
      have HL := Lib.hid (fun w => leading_any (f i) hsz w)
      go_wp2_with fail
      refine (HL.out _).mono ?_
      rintro x w' ⟨⟨m, hm, rfl⟩, rfl⟩
      by_cases h1 : (m : Int) < ((f i).size : Int)
      · have d1 : decide ((m : Int) < ((f i).size : Int)) = true := by simpa using h1
        by_cases h2 : c < 0
        · have d2 : decide (c < 0) = true := by simpa using h2
          go_wp2_with fail
          go_round
          case rel => exact ⟨m, i + 1, by omega, by omega, by omega, by omega, by go_num, by go_num⟩
          case measure => simp [intOf]; omega
        · have d2 : decide (c < 0) = false := by simpa using h2
          by_cases h3 : (m : Int) < c
          · have d3 : decide ((m : Int) < c) = true := by simpa using h3
            go_wp2_with fail
            go_round
            case rel => exact ⟨m, i + 1, by omega, by omega, by omega, by omega, by go_num, by go_num⟩
            case measure => simp [intOf]; omega
          · have d3 : decide ((m : Int) < c) = false := by simpa using h3
            go_wp2_with fail
            go_round
            case rel => exact ⟨c, i + 1, by omega, by omega, by omega, by omega, by go_num, by go_num⟩
            case measure => simp [intOf]; omega
      · have d1 : decide ((m : Int) < ((f i).size : Int)) = false := by simpa using h1
        go_wp2_with fail
        go_round
        case rel => exact ⟨c, i + 1, by omega, by omega, by omega, by omega, by go_num, by go_num⟩
        case measure => simp [intOf]; omega
    · go_wp2_with fail
      go_ret
      refine ⟨⟨(max c 0).toNat, ?_⟩, rfl⟩
      rw [Int.toNat_of_nonneg (by omega)]
      rfl

end Go.Proofs.YthmdgegaejanaaaGreatDoor
