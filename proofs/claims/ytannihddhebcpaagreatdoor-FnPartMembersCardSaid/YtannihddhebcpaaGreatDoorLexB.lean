/- WHAT IS PASSED OVER BETWEEN TOKENS (positionAfterWhitespace), over texts of ASCII. -/
import Derived.Test.YtannihddhebcpaaGreatDoorLexA
namespace Go.Proofs.YtannihddhebcpaaGreatDoor
open Go.RowKit

set_option maxHeartbeats 1600000 in
set_option maxRecDepth 100000 in
theorem skip_any {w : World} {b n : Nat} {l : List UInt8} (hB : Body w b n l) (cap p q : Nat) (hn : n ≤ 4611686018427387904) (hp : p ≤ n) (hs : Skips l p q) :
    Calls Tryz.prog 153 #[.slice (some ⟨b, 0, none⟩) n cap, .int .i64 (p : Int)] w fun e w' => e = .returned (.tuple #[.int .i64 (q : Int), .int .i64 (q : Int)]) ∧ w = w' := by
  have HS := Lib.hid hs
  clear hs
  go_enter Tryz.func153, Tryz.ntmps153
  go_wp2_with fail
  go_loop [4, 5] (fun u v => ∃ k : Nat, k ≤ n ∧ Hid (Skips l k q) ∧ u = .int .i64 k ∧ v = .int .i64 k) (fun u _ => n - (intOf u).toNat)
  case atStart => exact ⟨p, hp, HS, rfl, rfl⟩
  case round =>
    obtain ⟨k, hk, HK, rfl, rfl⟩ := hrel
    by_cases hlt : k < n
    · have hlen := hB.len
      have hin := ch_in hB.ascii (i := k) (by omega)
      clear hlen
      obtain ⟨c, hc⟩ : ∃ c, ch l k = c := ⟨_, rfl⟩
      rw [hc] at hin
      have R := runeAt_in hB cap (k : Int) (by omega) (by omega) c (by rw [Int.toNat_natCast]; exact hc)
      have HR := Lib.hid R
      clear R
      have hs := HK.out
      clear HK HS
      cases hs with
      | stop _ h h' =>
        rw [hc] at h h'
        have g1 : ¬ c = 9 ∧ ¬ c = 32 ∧ ¬ c = 10 ∧ ¬ c = 13 ∧ ¬ c = 44 := by unfold White at h; omega
        obtain ⟨g1, g2, g3, g4, g5⟩ := g1
        clear h hc
        have b0 : (c == 65279) = false := by simp; omega
        have b1 : (c == 9) = false := by simp; omega
        have b2 : (c == 32) = false := by simp; omega
        have b3 : (c == 10) = false := by simp; omega
        have b4 : (c == 13) = false := by simp; omega
        have b5 : (c == 44) = false := by simp; omega
        have b6 : (c == 35) = false := by simp; omega
        clear g1 g2 g3 g4 g5 h'
        go_wp2_with (go_at_call 155; refine HR.out.mono ?_; rintro e w' ⟨rfl, rfl⟩)
        go_ret2
        exact ⟨rfl, rfl⟩
      | white _ _ h r =>
        rw [hc] at h
        have HR2 := Lib.hid r
        clear r
        unfold White at h
        clear hc hin
        rcases h with rfl | rfl | rfl | rfl | rfl
        all_goals
          go_wp2_with (go_at_call 155; refine HR.out.mono ?_; rintro e w' ⟨rfl, rfl⟩)
          go_round
          case rel => exact ⟨k + 1, by omega, HR2, by go_num, by go_num⟩
          case measure => simp [intOf]; omega
      | comment _ r _ h hr hin2 hout s =>
        rw [hc] at h
        subst h
        have HS2 := Lib.hid s
        have HI := Lib.hid hin2
        have HO := Lib.hid hout
        have hrn : r ≤ n := by
          by_cases h' : r ≤ n
          · exact h'
          · have h1 := hin2 n (by omega) (by omega)
            rw [ch_end (by rw [hB.len]; omega)] at h1
            unfold InC at h1
            omega
        clear s hin2 hout hc hin
        go_wp2_with (go_at_call 155; refine HR.out.mono ?_; rintro e w' ⟨rfl, rfl⟩)
        go_loop [4, 5] (fun u v => ∃ j : Nat, k < j ∧ j ≤ r ∧ u = .int .i64 j ∧ v = .int .i64 j) (fun u _ => n - (intOf u).toNat)
        case atStart => exact ⟨k + 1, by omega, by omega, by go_num, by go_num⟩
        case round =>
          obtain ⟨j, hj1, hj2, rfl, rfl⟩ := hrel
          have HJ := Lib.hid (runeAt_any hB cap (j : Int) (by omega))
          by_cases hjr : j < r
          · have hij := HI.out j hj1 hjr
            have ecw : cw l j = 1 := cw_in (by rw [hB.len]; omega)
            obtain ⟨c, hc⟩ : ∃ c, ch l j = c := ⟨_, rfl⟩
            have hb := ch_all hB.ascii j
            rw [Int.toNat_natCast, ecw, hc] at HJ
            rw [hc] at hij hb
            clear hc ecw
            unfold InC at hij
            have b1 : (c != 0) = true := by rw [bne_iff_ne]; omega
            have b2 : (c != 10) = true := by rw [bne_iff_ne]; omega
            have b3 : (c != 13) = true := by rw [bne_iff_ne]; omega
            rcases hij with hij | rfl
            all_goals
              go_wp2_with (go_at_call 155; refine HJ.out.mono ?_; rintro e w' ⟨rfl, rfl⟩)
              go_round
              case rel => exact ⟨j + 1, by omega, by omega, by go_num, by go_num⟩
              case measure => simp [intOf]; omega
          · obtain rfl : j = r := by omega
            have hout := HO.out
            by_cases hjn : j < n
            · obtain ⟨c, hc⟩ : ∃ c, ch l j = c := ⟨_, rfl⟩
              have hb := ch_in hB.ascii (i := j) (by rw [hB.len]; omega)
              rw [Int.toNat_natCast, hc] at HJ
              rw [hc] at hout hb
              clear hc
              unfold InC at hout
              have hc1 : c ≤ 31 := by omega
              have b4 : (c == 9) = false := by simp; omega
              clear hout
              by_cases hz : c = 0
              · subst hz
                go_wp2_with (go_at_call 155; refine HJ.out.mono ?_; rintro e w' ⟨rfl, rfl⟩)
                go_round
                case rel => exact ⟨j, by omega, HS2, rfl, rfl⟩
                case measure => simp [intOf]; omega
              · have b1 : (c != 0) = true := by rw [bne_iff_ne]; omega
                clear hz
                go_wp2_with (go_at_call 155; refine HJ.out.mono ?_; rintro e w' ⟨rfl, rfl⟩)
                go_round
                case rel => exact ⟨j, by omega, HS2, rfl, rfl⟩
                case measure => simp [intOf]; omega
            · clear hout
              go_wp2_with (go_at_call 155; refine HJ.out.mono ?_; rintro e w' ⟨rfl, rfl⟩)
              go_round
              case rel => exact ⟨j, by omega, HS2, rfl, rfl⟩
              case measure => simp [intOf]; omega
    · have hq := HK.out.atEnd (by rw [hB.len]; omega)
      subst hq
      obtain rfl : q = n := by omega
      go_wp2
      go_ret2
      exact ⟨rfl, rfl⟩

end Go.Proofs.YtannihddhebcpaaGreatDoor
