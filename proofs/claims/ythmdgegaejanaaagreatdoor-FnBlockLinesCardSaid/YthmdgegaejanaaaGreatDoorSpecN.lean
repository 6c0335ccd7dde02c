/- THE REFERENCE: plainBlock returns. -/
import Derived.Test.YthmdgegaejanaaaGreatDoorSpecM
import Derived.Test.YthmdgegaejanaaaGreatDoorSpecC
namespace Go.Proofs.YthmdgegaejanaaaGreatDoor
open Go.RowKit

set_option maxHeartbeats 3200000 in
set_option maxRecDepth 100000 in
theorem plainBlock_any (s : ByteArray) (n : Nat) (f : Nat → ByteArray) (h0 : 0 < n) (hn : n ≤ 4611686018427387904) (hf : ∀ i, i < n → (f i).size ≤ 4611686018427387904)
    (hL : ∀ w, Calls Tryz.prog 70 #[.string s] w fun x W => ∃ g cap, x = .returned (.slice (some ⟨g, 0, none⟩) n cap) ∧ Rows_ w W g n cap f) (w : World) :
    Calls Tryz.prog 55 #[.string s] w fun x w' => (∃ b, x = .returned (.bool b)) ∧ Below w.heap.size w w' := by
  have HL := Lib.hid hL
  have HF := Lib.hid hf
  clear hL hf
  go_enter Tryz.func55, Tryz.ntmps55
  go_wp2_with fail
  refine (HL.out _).mono ?_
  rintro x W ⟨g, cap, rfl, hR⟩
  have HR := Lib.hid hR
  have q0 := hR.cell 0 h0
  clear hR
  go_wp2_with fail
  refine (common_any HR.out HF.out hn).mono ?_
  rintro x w' ⟨⟨k, rfl⟩, rfl⟩
  obtain ⟨m, hm, hlm⟩ := leading_ex (f 0) (HF.out 0 h0)
  have HM := Lib.hid hlm
  clear hlm
  by_cases hk : 0 < k
  · have d1 : decide ((0 : Int) < (k : Int)) = true := by simpa using hk
    go_wp2_with fail
    go_quiet ((go_at_call 72; first | exact quiet_add_left (HM.out _) | exact quiet_left (HM.out _)))
    by_cases hms : (m : Int) < ((f 0).size : Int)
    · have d2 : decide ((m : Int) < ((f 0).size : Int)) = true := by simpa using hms
      go_wp2_with fail
      go_ret
      exact ⟨⟨_, rfl⟩, below_drewN HR.out.below _⟩
    · have d2 : decide ((m : Int) < ((f 0).size : Int)) = false := by simpa using hms
      go_wp2_with fail
      go_loopg [5] n (fun r v wr => ∃ (i x : Nat), r = n + 1 - i ∧ 1 ≤ i ∧ i ≤ n + 1 ∧ v = .int .i64 (i : Int) ∧ wr = W.drewN x)
      case atStart => exact ⟨1, _, by omega, by omega, by omega, rfl, rfl⟩
      case round =>
        obtain ⟨i, x, rfl, hi1, hi2, rfl, rfl⟩ := hrel
        by_cases hlt : i < n
        · have qi := HR.out.cell i hlt
          obtain ⟨mi, hmi, hli⟩ := leading_ex (f i) (HF.out i hlt)
          have HI := Lib.hid hli
          clear hli
          have hcase : (((mi : Int) == ((f i).size : Int)) = false) ∨ (((mi : Int) == ((f i).size : Int)) = true ∧ decide (0 < (f i).size) = false) ∨ (((mi : Int) == ((f i).size : Int)) = true ∧ decide (0 < (f i).size) = true ∧ decide ((f i).size < k) = false) ∨ (((mi : Int) == ((f i).size : Int)) = true ∧ decide (0 < (f i).size) = true ∧ decide ((f i).size < k) = true) := by
            cases ((mi : Int) == ((f i).size : Int)) <;> cases decide (0 < (f i).size) <;> cases decide ((f i).size < k) <;> simp
          rcases hcase with c1 | ⟨c1, c2⟩ | ⟨c1, c2, c3⟩ | ⟨c1, c2, c3⟩
          · go_wp2_with fail
            go_quiet ((go_at_call 72; first | exact quiet_add_left (HI.out _) | exact quiet_left (HI.out _)))
            go_wp2_with fail
            go_roundg (n + 1 - (i + 1))
            case measure => omega
            case rel => exact ⟨i + 1, _, by omega, by omega, by omega, by go_num, rfl⟩
          · go_wp2_with fail
            go_quiet ((go_at_call 72; first | exact quiet_add_left (HI.out _) | exact quiet_left (HI.out _)))
            go_wp2_with fail
            go_roundg (n + 1 - (i + 1))
            case measure => omega
            case rel => exact ⟨i + 1, _, by omega, by omega, by omega, by go_num, rfl⟩
          · go_wp2_with fail
            go_quiet ((go_at_call 72; first | exact quiet_add_left (HI.out _) | exact quiet_left (HI.out _)))
            go_wp2_with fail
            go_roundg (n + 1 - (i + 1))
            case measure => omega
            case rel => exact ⟨i + 1, _, by omega, by omega, by omega, by go_num, rfl⟩
          · go_wp2_with fail
            go_quiet ((go_at_call 72; first | exact quiet_add_left (HI.out _) | exact quiet_left (HI.out _)))
            go_wp2_with fail
            go_ret
            exact ⟨⟨_, rfl⟩, below_drewN (below_drewN HR.out.below _) _⟩
        · go_wp2_with fail
          go_ret
          exact ⟨⟨_, rfl⟩, below_drewN HR.out.below _⟩
  · have d1 : decide ((0 : Int) < (k : Int)) = false := by simpa using hk
    go_wp2_with fail
    go_quiet (fail)
    go_wp2_with fail
    go_loopg [5] n (fun r v wr => ∃ (i x : Nat), r = n + 1 - i ∧ 1 ≤ i ∧ i ≤ n + 1 ∧ v = .int .i64 (i : Int) ∧ wr = W.drewN x)
    case atStart => exact ⟨1, _, by omega, by omega, by omega, rfl, rfl⟩
    case round =>
      obtain ⟨i, x, rfl, hi1, hi2, rfl, rfl⟩ := hrel
      by_cases hlt : i < n
      · have qi := HR.out.cell i hlt
        obtain ⟨mi, hmi, hli⟩ := leading_ex (f i) (HF.out i hlt)
        have HI := Lib.hid hli
        clear hli
        have hcase : (((mi : Int) == ((f i).size : Int)) = false) ∨ (((mi : Int) == ((f i).size : Int)) = true ∧ decide (0 < (f i).size) = false) ∨ (((mi : Int) == ((f i).size : Int)) = true ∧ decide (0 < (f i).size) = true ∧ decide ((f i).size < k) = false) ∨ (((mi : Int) == ((f i).size : Int)) = true ∧ decide (0 < (f i).size) = true ∧ decide ((f i).size < k) = true) := by
          cases ((mi : Int) == ((f i).size : Int)) <;> cases decide (0 < (f i).size) <;> cases decide ((f i).size < k) <;> simp
        rcases hcase with c1 | ⟨c1, c2⟩ | ⟨c1, c2, c3⟩ | ⟨c1, c2, c3⟩
        · go_wp2_with fail
          go_quiet ((go_at_call 72; first | exact quiet_add_left (HI.out _) | exact quiet_left (HI.out _)))
          go_wp2_with fail
          go_roundg (n + 1 - (i + 1))
          case measure => omega
          case rel => exact ⟨i + 1, _, by omega, by omega, by omega, by go_num, rfl⟩
        · go_wp2_with fail
          go_quiet ((go_at_call 72; first | exact quiet_add_left (HI.out _) | exact quiet_left (HI.out _)))
          go_wp2_with fail
          go_roundg (n + 1 - (i + 1))
          case measure => omega
          case rel => exact ⟨i + 1, _, by omega, by omega, by omega, by go_num, rfl⟩
        · go_wp2_with fail
          go_quiet ((go_at_call 72; first | exact quiet_add_left (HI.out _) | exact quiet_left (HI.out _)))
          go_wp2_with fail
          go_roundg (n + 1 - (i + 1))
          case measure => omega
          case rel => exact ⟨i + 1, _, by omega, by omega, by omega, by go_num, rfl⟩
        · go_wp2_with fail
          go_quiet ((go_at_call 72; first | exact quiet_add_left (HI.out _) | exact quiet_left (HI.out _)))
          go_wp2_with fail
          go_ret
          exact ⟨⟨_, rfl⟩, below_drewN (below_drewN HR.out.below _) _⟩
      · go_wp2_with fail
        go_ret
        exact ⟨⟨_, rfl⟩, below_drewN HR.out.below _⟩

end Go.Proofs.YthmdgegaejanaaaGreatDoor
