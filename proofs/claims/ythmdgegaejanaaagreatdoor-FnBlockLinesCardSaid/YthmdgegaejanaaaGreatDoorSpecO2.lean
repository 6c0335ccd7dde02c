/- THE REFERENCE: BlockValue returns a text. -/
import Derived.Test.YthmdgegaejanaaaGreatDoorSpecN
namespace Go.Proofs.YthmdgegaejanaaaGreatDoor
open Go.RowKit

theorem Rows_.drewN {w W : World} {g n cap : Nat} {f : Nat → ByteArray} (h : Rows_ w W g n cap f) (m : Nat) : Rows_ w (W.drewN m) g n cap f :=
  ⟨h.cell, h.free, h.lo, h.hi, h.room, h.top, below_drewN h.below m⟩

set_option maxHeartbeats 6400000 in
set_option maxRecDepth 100000 in
theorem blockValue_any (s : ByteArray) (n : Nat) (f : Nat → ByteArray) (h0 : 0 < n) (hn : n ≤ 1000) (hf : ∀ i, i < n → (f i).size ≤ 1000)
    (hL : ∀ w, Calls Tryz.prog 70 #[.string s] w fun x W => ∃ g cap, x = .returned (.slice (some ⟨g, 0, none⟩) n cap) ∧ Rows_ w W g n cap f) (w : World) :
    Calls Tryz.prog 56 #[.string s] w fun x w' => (∃ v, x = .returned (.string v)) ∧ Below w.heap.size w w' := by
  have HL := Lib.hid hL
  have HF := Lib.hid hf
  clear hL hf
  go_enter Tryz.func56, Tryz.ntmps56
  go_wp2_with fail
  refine (HL.out _).mono ?_
  rintro x W ⟨g, cap, rfl, hR⟩
  have HR := Lib.hid hR
  clear hR
  go_wp2_with fail
  refine (common_any HR.out (fun i hi => by have := HF.out i hi; omega) (by omega)).mono ?_
  rintro x w' ⟨⟨k, rfl⟩, rfl⟩
  go_wp2_with fail
  go_loopg [5] n (fun r v wr => ∃ (i : Nat) (f' : Nat → ByteArray), r = n + 1 - i ∧ 1 ≤ i ∧ i ≤ n + 1 ∧ v = .int .i64 (i : Int) ∧ Hid (∀ i, i < n → (f' i).size ≤ 1000) ∧ Hid (Rows_ w wr g n cap f'))
  case atStart => exact ⟨1, f, by omega, by omega, by omega, rfl, HF, HR⟩
  case round =>
    clear HR HF
    obtain ⟨i, f', rfl, hi1, hi2, rfl, HF, HR⟩ := hrel
    by_cases hlt : i < n
    · have qi := HR.out.cell i hlt
      have fi := HR.out.free i
      have hsz := HF.out i hlt
      go_wp2_with fail
      go_region
      have HR2 := Lib.hid (HR.out.put i hlt ((f' i).extract (min (k : Int) ((f' i).size : Int)).toNat (f' i).size)).drew
      have HF2 : Hid (∀ j, j < n → ((fun j => if j = i then (f' i).extract (min (k : Int) ((f' i).size : Int)).toNat (f' i).size else f' j) j).size ≤ 1000) := fun j hj => by
        by_cases e : j = i
        · simp only [if_pos e]
          rw [ByteArray.size_extract]
          omega
        · simp only [if_neg e]
          exact HF.out j hj
      clear HR HF
      go_wp2_with fail
      go_roundg (n + 1 - (i + 1))
      case measure => omega
      case rel => exact ⟨i + 1, _, by omega, by omega, by omega, by go_num, HF2, HR2⟩
    · have hcap := HR.out.room
      have hmax := HR.out.top
      unfold maxLen at hmax
      go_wp2_with fail
      go_loopg [3] n (fun r v wr => ∃ (off len c : Nat), v = .slice (some ⟨g, off, none⟩) len c ∧ len = r ∧ off + len ≤ n ∧ len ≤ c ∧ c ≤ cap ∧ Hid (Rows_ w wr g n cap f'))
      case atStart => exact ⟨0, n, cap, rfl, rfl, by omega, hcap, Nat.le_refl _, HR⟩
      case round =>
        clear HR
        obtain ⟨off, len, c, rfl, rfl, hol, hlc, hcc, HR⟩ := hrel
        by_cases h0l : 0 < len
        · have hg0 : decide (0 < len) = true := by simpa using h0l
          have qo := HR.out.cell off (by omega)
          have hzo := HF.out off (by omega)
          obtain ⟨m, hm, hlm⟩ := leading_ex (f' off) (by omega)
          have HM := Lib.hid hlm
          clear hlm
          by_cases hms : m = (f' off).size
          · have d1 : ((m : Int) == ((f' off).size : Int)) = true := by simp [hms]
            go_wp2_with fail
            go_quiet ((go_at_call 72; first | exact quiet_add_left (HM.out _) | exact quiet_left (HM.out _)))
            go_wp2_with fail
            all_goals
              go_roundg (len - 1)
              case measure => omega
              case rel => first | exact ⟨off + 1, len - 1, c - 1, rfl, rfl, by omega, by omega, by omega, HR.out.drewN _⟩ | exact ⟨off, len - 1, 0, rfl, rfl, by omega, by omega, by omega, HR.out.drewN _⟩
          · have d1 : ((m : Int) == ((f' off).size : Int)) = false := by simp; omega
            go_wp2_with fail
            go_quiet ((go_at_call 72; first | exact quiet_add_left (HM.out _) | exact quiet_left (HM.out _)))
            go_wp2_with fail
            go_loopg [3] len (fun r v wr => ∃ (len c : Nat), v = .slice (some ⟨g, off, none⟩) len c ∧ len = r ∧ off + len ≤ n ∧ len ≤ c ∧ c ≤ cap ∧ Hid (Rows_ w wr g n cap f'))
            case atStart => exact ⟨len, c, rfl, rfl, hol, hlc, hcc, HR.out.drewN _⟩
            case round =>
              clear HR hol hlc hcc
              obtain ⟨len, c, rfl, rfl, hol, hlc, hcc, HR⟩ := hrel
              by_cases h0l : 0 < len
              · obtain ⟨mm, rfl⟩ : ∃ mm, len = mm + 1 := ⟨len - 1, by omega⟩
                have qo := HR.out.cell (off + mm) (by omega)
                have hzo := HF.out (off + mm) (by omega)
                obtain ⟨m, hm, hlm⟩ := leading_ex (f' (off + mm)) (by omega)
                have HM := Lib.hid hlm
                clear hlm
                by_cases hms : m = (f' (off + mm)).size
                · have d1 : ((m : Int) == ((f' (off + mm)).size : Int)) = true := by simp [hms]
                  go_wp2_with fail
                  go_quiet ((go_at_call 72; first | exact quiet_add_left (HM.out _) | exact quiet_left (HM.out _)))
                  go_wp2_with fail
                  go_roundg mm
                  case measure => omega
                  case rel => exact ⟨mm, c, rfl, rfl, by omega, by omega, hcc, HR.out.drewN _⟩
                · have d1 : ((m : Int) == ((f' (off + mm)).size : Int)) = false := by simp; omega
                  go_wp2_with fail
                  go_quiet ((go_at_call 72; first | exact quiet_add_left (HM.out _) | exact quiet_left (HM.out _)))
                  go_wp2_with fail
                  go_loop [6, 7] (fun u v => ∃ (o : ByteArray) (i : Nat), i ≤ (mm + 1) ∧ o.size ≤ 1001 * i ∧ u = .string o ∧ v = .int .i64 (i : Int)) (fun _ v => (mm + 1) - (intOf v).toNat)
                  case atStart => exact ⟨⟨#[]⟩, 0, by omega, by decide, rfl, rfl⟩
                  case round =>
                    obtain ⟨o, i, hi, ho, rfl, rfl⟩ := hrel
                    by_cases hli : i < (mm + 1)
                    · have qi := fun x => (HR.out.drewN x).cell (off + i) (by omega)
                      have hzi := HF.out (off + i) (by omega)
                      by_cases hi0 : i = 0
                      · subst hi0
                        simp only [Nat.add_zero] at qi
                        go_wp2_with fail
                        go_round
                        case rel => exact ⟨_, 1, by omega, by simp only [ByteArray.size_append]; rw [Nat.add_zero] at hzi; omega, rfl, by go_num⟩
                        case measure => simp [intOf]
                      · have d0 : decide ((0 : Int) < (i : Int)) = true := by simp; omega
                        have hx : (⟨#[10]⟩ : ByteArray).size = 1 := rfl
                        go_wp2_with fail
                        go_round
                        case rel => exact ⟨_, i + 1, by omega, by simp only [ByteArray.size_append]; omega, rfl, by go_num⟩
                        case measure => simp [intOf]; omega
                    · obtain rfl : i = (mm + 1) := by omega
                      go_wp2_with fail
                      go_ret
                      exact ⟨⟨_, rfl⟩, (HR.out.drewN _).below⟩
              · have hg0 : decide (0 < len) = false := by simpa using h0l
                go_wp2_with fail
                go_quiet (fail)
                go_wp2_with fail
                go_loop [6, 7] (fun u v => ∃ o : ByteArray, u = .string o ∧ v = .int .i64 0) (fun _ _ => 0)
                case atStart => exact ⟨⟨#[]⟩, rfl, rfl⟩
                case round =>
                  obtain ⟨o, rfl, rfl⟩ := hrel
                  go_wp2_with fail
                  go_ret
                  exact ⟨⟨_, rfl⟩, (HR.out.drewN _).below⟩
        · have hg0 : decide (0 < len) = false := by simpa using h0l
          go_wp2_with fail
          go_quiet (fail)
          go_wp2_with fail
          go_loopg [3] 0 (fun r v wr => r = 0 ∧ v = .slice (some ⟨g, off, none⟩) len c ∧ Hid (Rows_ w wr g n cap f'))
          case atStart => exact ⟨rfl, rfl, HR.out.drewN _⟩
          case round =>
            clear HR
            obtain ⟨rfl, rfl, HR⟩ := hrel
            go_wp2_with fail
            go_quiet (fail)
            go_wp2_with fail
            go_loop [6, 7] (fun u v => ∃ o : ByteArray, u = .string o ∧ v = .int .i64 0) (fun _ _ => 0)
            case atStart => exact ⟨⟨#[]⟩, rfl, rfl⟩
            case round =>
              obtain ⟨o, rfl, rfl⟩ := hrel
              go_wp2_with fail
              go_ret
              exact ⟨⟨_, rfl⟩, (HR.out.drewN _).below⟩

end Go.Proofs.YthmdgegaejanaaaGreatDoor
