/- BLOCK STRINGS: leadingWhitespaceLen, lineIsBlank. -/
import Derived.Test.YthmdgegaejanaaaGreatDoorBlkA
import Derived.Test.YthmdgegaejanaaaGreatDoorToks
import Derived.Test.YthmdgegaejanaaaGreatDoorPreds2
import Derived.Lib.OthersKept
namespace Go.Proofs.YthmdgegaejanaaaGreatDoor
open Go.RowKit

theorem iter_next (w : World) (s : ByteArray) (k : Nat) (hk : k < s.size) (ha : (s[k]).toNat < 128) (ty : TypeId) :
    (Instr.next (.pointer (some ⟨w.heap.size, 0, none⟩)) true ty).run Tryz.prog (w.iter s k) = .ok (.tuple #[.bool true, .int .i64 (k : Int), .int .i32 ((s[k]).toNat : Int)]) (w.iter s (k + 1)) :=
  run_next_ascii (P := Tryz.prog) w s k ty hk ha
theorem iter_last (w : World) (s : ByteArray) (ty : TypeId) :
    (Instr.next (.pointer (some ⟨w.heap.size, 0, none⟩)) true ty).run Tryz.prog (w.iter s s.size) = .ok (.tuple #[.bool false]) (w.iter s s.size) :=
  run_next_end (P := Tryz.prog) w s s.size ty (by omega)

set_option maxHeartbeats 3200000 in
set_option maxRecDepth 100000 in
/-- leadingWhitespaceLen: k blanks ahead, then something else or the end. -/
theorem lead_any (s : ByteArray) (hn : s.size ≤ 4611686018427387904) (ha : Ascii s.data.toList) (k : Nat) (hk : k ≤ s.size) (hin : ∀ j, j < k → ch s.data.toList j = 32) (hout : ch s.data.toList k ≠ 32 ∧ ch s.data.toList k ≠ 9) (w : World) :
    Calls Tryz.prog 63 #[.string s] w fun x w' => x = .returned (.int .i64 (k : Int)) ∧ Below w.heap.size w w' := by
  have HI := Lib.hid hin
  have HO := Lib.hid hout
  have HA : Hid (∀ j (h : j < s.size), (s[j]).toNat < 128) := fun j h => by
    have h1 := ch_in ha (i := j) (by rw [len_data]; exact h)
    rw [ch_byte s j h] at h1
    omega
  clear hin hout ha
  go_enter Tryz.func63, Tryz.ntmps63
  go_wp2_with fail
  go_loopg [2] k (fun m v wr => ∃ j : Nat, j ≤ k ∧ m = k - j ∧ v = .int .i64 (j : Int) ∧ wr = w.iter s j)
  case atStart => exact ⟨0, by omega, by omega, rfl, rfl⟩
  case round =>
    obtain ⟨j, hj, rfl, rfl, rfl⟩ := hrel
    by_cases hjs : j < s.size
    · have hnx := iter_next w s j hjs (HA.out j hjs)
      have hcj := ch_byte s j hjs
      by_cases hjk : j < k
      · have h32 := HI.out j hjk
        rw [hcj] at h32
        have b1 : ((s[j].toNat : Int) == 32) = true := by simp; omega
        go_wp2_with fail
        go_roundg (k - (j + 1))
        case measure => omega
        case rel => exact ⟨j + 1, by omega, rfl, by go_num, rfl⟩
      · obtain rfl : j = k := by omega
        have ho := HO.out
        rw [hcj] at ho
        have b1 : ((s[j].toNat : Int) == 32) = false := by simp; omega
        have b2 : ((s[j].toNat : Int) == 9) = false := by simp; omega
        go_wp2_with fail
        go_ret
        exact ⟨rfl, (Below.refl _ w).alloc (Nat.le_refl _) (.stringIter s (j + 1))⟩
    · obtain rfl : j = s.size := by omega
      have hnx := iter_last w s
      obtain rfl : k = s.size := by omega
      go_wp2_with fail
      go_ret
      exact ⟨rfl, (Below.refl _ w).alloc (Nat.le_refl _) (.stringIter s s.size)⟩

set_option maxHeartbeats 1600000 in
set_option maxRecDepth 100000 in
theorem blank_any (s : ByteArray) (hn : s.size ≤ 4611686018427387904) (ha : Ascii s.data.toList) (k : Nat) (hk : k ≤ s.size) (hin : ∀ j, j < k → ch s.data.toList j = 32) (hout : ch s.data.toList k ≠ 32 ∧ ch s.data.toList k ≠ 9) (w : World) :
    Calls Tryz.prog 64 #[.string s] w fun x w' => x = .returned (.bool (decide (k = s.size))) ∧ Below w.heap.size w w' := by
  have H := Lib.hid (lead_any s hn ha k hk hin hout w)
  clear hin hout ha
  by_cases h : k = s.size
  all_goals
    have b1 : (((k : Nat) : Int) == (s.size : Int)) = decide (k = s.size) := by
      rw [Bool.eq_iff_iff]; simp; omega
    go_enter Tryz.func64, Tryz.ntmps64
    go_wp2_with fail
    refine H.out.mono ?_
    rintro x w' ⟨rfl, hb⟩
    go_wp2_with fail
    go_ret
    exact ⟨by simp [h], hb⟩

end Go.Proofs.YthmdgegaejanaaaGreatDoor
