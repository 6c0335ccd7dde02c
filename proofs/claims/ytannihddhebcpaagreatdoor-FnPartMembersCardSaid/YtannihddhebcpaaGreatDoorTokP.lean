/- ONE TOKEN (readToken): the signs of one byte. -/
import Derived.Test.YtannihddhebcpaaGreatDoorTokL
namespace Go.Proofs.YtannihddhebcpaaGreatDoor
open Go.RowKit

set_option maxHeartbeats 3200000 in
set_option maxRecDepth 100000 in
theorem tok_p33 {w : World} {p b n cap : Nat} {l : List UInt8} (hS : Src w p b n cap l) (hn : n ≤ 4611686018427387904) (i q : Nat) (hi : i ≤ n) (hs : Skips l i q) (hc : ch l q = 33) :
    Calls Tryz.prog 133 #[.pointer (some ⟨p, 0, none⟩), .int .i64 (i : Int)] w fun x w' => 
      x = .returned (.tuple #[.agg #[.int .i64 2, .int .i64 q, .int .i64 ((q : Int) + 1), .string ⟨#[]⟩], .nilIface]) ∧ Below w.heap.size w w' := by
  obtain ⟨c1, c2, c3⟩ := hS.cells
  have hqn : q < n := by have := ch_lt (l := l) (i := q) (by omega); rw [hS.body.len] at this; exact this
  have hb1 := fun o => (Below.refl _ w).alloc (Nat.le_refl _) o
  have HS := Lib.hid (fun o => skip_any (hS.body.below (hb1 o)) cap i q hn hi hs)
  have HR := Lib.hid (fun o => runeAt_in (hS.body.below (hb1 o)) cap (q : Int) (by omega) (by omega) 33 (by rw [Int.toNat_natCast]; exact hc))
  clear c3 hs hb1 hc
  go_enter Tryz.func133, Tryz.ntmps133
  go_wp2_with (first | (go_at_call 153; refine (HS.out _).mono ?_; rintro x w' ⟨rfl, rfl⟩) | (go_at_call 155; refine (HR.out _).mono ?_; rintro x w' ⟨rfl, rfl⟩) | (go_at_call 154; refine (makeToken_any _ _ _ _ _).mono ?_; rintro x w' ⟨rfl, rfl⟩))
  go_returns
  exact ⟨rfl, by go_grown⟩

set_option maxHeartbeats 3200000 in
set_option maxRecDepth 100000 in
theorem tok_p36 {w : World} {p b n cap : Nat} {l : List UInt8} (hS : Src w p b n cap l) (hn : n ≤ 4611686018427387904) (i q : Nat) (hi : i ≤ n) (hs : Skips l i q) (hc : ch l q = 36) :
    Calls Tryz.prog 133 #[.pointer (some ⟨p, 0, none⟩), .int .i64 (i : Int)] w fun x w' => 
      x = .returned (.tuple #[.agg #[.int .i64 3, .int .i64 q, .int .i64 ((q : Int) + 1), .string ⟨#[]⟩], .nilIface]) ∧ Below w.heap.size w w' := by
  obtain ⟨c1, c2, c3⟩ := hS.cells
  have hqn : q < n := by have := ch_lt (l := l) (i := q) (by omega); rw [hS.body.len] at this; exact this
  have hb1 := fun o => (Below.refl _ w).alloc (Nat.le_refl _) o
  have HS := Lib.hid (fun o => skip_any (hS.body.below (hb1 o)) cap i q hn hi hs)
  have HR := Lib.hid (fun o => runeAt_in (hS.body.below (hb1 o)) cap (q : Int) (by omega) (by omega) 36 (by rw [Int.toNat_natCast]; exact hc))
  clear c3 hs hb1 hc
  go_enter Tryz.func133, Tryz.ntmps133
  go_wp2_with (first | (go_at_call 153; refine (HS.out _).mono ?_; rintro x w' ⟨rfl, rfl⟩) | (go_at_call 155; refine (HR.out _).mono ?_; rintro x w' ⟨rfl, rfl⟩) | (go_at_call 154; refine (makeToken_any _ _ _ _ _).mono ?_; rintro x w' ⟨rfl, rfl⟩))
  go_returns
  exact ⟨rfl, by go_grown⟩

set_option maxHeartbeats 3200000 in
set_option maxRecDepth 100000 in
theorem tok_p38 {w : World} {p b n cap : Nat} {l : List UInt8} (hS : Src w p b n cap l) (hn : n ≤ 4611686018427387904) (i q : Nat) (hi : i ≤ n) (hs : Skips l i q) (hc : ch l q = 38) :
    Calls Tryz.prog 133 #[.pointer (some ⟨p, 0, none⟩), .int .i64 (i : Int)] w fun x w' => 
      x = .returned (.tuple #[.agg #[.int .i64 20, .int .i64 q, .int .i64 ((q : Int) + 1), .string ⟨#[]⟩], .nilIface]) ∧ Below w.heap.size w w' := by
  obtain ⟨c1, c2, c3⟩ := hS.cells
  have hqn : q < n := by have := ch_lt (l := l) (i := q) (by omega); rw [hS.body.len] at this; exact this
  have hb1 := fun o => (Below.refl _ w).alloc (Nat.le_refl _) o
  have HS := Lib.hid (fun o => skip_any (hS.body.below (hb1 o)) cap i q hn hi hs)
  have HR := Lib.hid (fun o => runeAt_in (hS.body.below (hb1 o)) cap (q : Int) (by omega) (by omega) 38 (by rw [Int.toNat_natCast]; exact hc))
  clear c3 hs hb1 hc
  go_enter Tryz.func133, Tryz.ntmps133
  go_wp2_with (first | (go_at_call 153; refine (HS.out _).mono ?_; rintro x w' ⟨rfl, rfl⟩) | (go_at_call 155; refine (HR.out _).mono ?_; rintro x w' ⟨rfl, rfl⟩) | (go_at_call 154; refine (makeToken_any _ _ _ _ _).mono ?_; rintro x w' ⟨rfl, rfl⟩))
  go_returns
  exact ⟨rfl, by go_grown⟩

set_option maxHeartbeats 3200000 in
set_option maxRecDepth 100000 in
theorem tok_p40 {w : World} {p b n cap : Nat} {l : List UInt8} (hS : Src w p b n cap l) (hn : n ≤ 4611686018427387904) (i q : Nat) (hi : i ≤ n) (hs : Skips l i q) (hc : ch l q = 40) :
    Calls Tryz.prog 133 #[.pointer (some ⟨p, 0, none⟩), .int .i64 (i : Int)] w fun x w' => 
      x = .returned (.tuple #[.agg #[.int .i64 4, .int .i64 q, .int .i64 ((q : Int) + 1), .string ⟨#[]⟩], .nilIface]) ∧ Below w.heap.size w w' := by
  obtain ⟨c1, c2, c3⟩ := hS.cells
  have hqn : q < n := by have := ch_lt (l := l) (i := q) (by omega); rw [hS.body.len] at this; exact this
  have hb1 := fun o => (Below.refl _ w).alloc (Nat.le_refl _) o
  have HS := Lib.hid (fun o => skip_any (hS.body.below (hb1 o)) cap i q hn hi hs)
  have HR := Lib.hid (fun o => runeAt_in (hS.body.below (hb1 o)) cap (q : Int) (by omega) (by omega) 40 (by rw [Int.toNat_natCast]; exact hc))
  clear c3 hs hb1 hc
  go_enter Tryz.func133, Tryz.ntmps133
  go_wp2_with (first | (go_at_call 153; refine (HS.out _).mono ?_; rintro x w' ⟨rfl, rfl⟩) | (go_at_call 155; refine (HR.out _).mono ?_; rintro x w' ⟨rfl, rfl⟩) | (go_at_call 154; refine (makeToken_any _ _ _ _ _).mono ?_; rintro x w' ⟨rfl, rfl⟩))
  go_returns
  exact ⟨rfl, by go_grown⟩

set_option maxHeartbeats 3200000 in
set_option maxRecDepth 100000 in
theorem tok_p41 {w : World} {p b n cap : Nat} {l : List UInt8} (hS : Src w p b n cap l) (hn : n ≤ 4611686018427387904) (i q : Nat) (hi : i ≤ n) (hs : Skips l i q) (hc : ch l q = 41) :
    Calls Tryz.prog 133 #[.pointer (some ⟨p, 0, none⟩), .int .i64 (i : Int)] w fun x w' => 
      x = .returned (.tuple #[.agg #[.int .i64 5, .int .i64 q, .int .i64 ((q : Int) + 1), .string ⟨#[]⟩], .nilIface]) ∧ Below w.heap.size w w' := by
  obtain ⟨c1, c2, c3⟩ := hS.cells
  have hqn : q < n := by have := ch_lt (l := l) (i := q) (by omega); rw [hS.body.len] at this; exact this
  have hb1 := fun o => (Below.refl _ w).alloc (Nat.le_refl _) o
  have HS := Lib.hid (fun o => skip_any (hS.body.below (hb1 o)) cap i q hn hi hs)
  have HR := Lib.hid (fun o => runeAt_in (hS.body.below (hb1 o)) cap (q : Int) (by omega) (by omega) 41 (by rw [Int.toNat_natCast]; exact hc))
  clear c3 hs hb1 hc
  go_enter Tryz.func133, Tryz.ntmps133
  go_wp2_with (first | (go_at_call 153; refine (HS.out _).mono ?_; rintro x w' ⟨rfl, rfl⟩) | (go_at_call 155; refine (HR.out _).mono ?_; rintro x w' ⟨rfl, rfl⟩) | (go_at_call 154; refine (makeToken_any _ _ _ _ _).mono ?_; rintro x w' ⟨rfl, rfl⟩))
  go_returns
  exact ⟨rfl, by go_grown⟩

set_option maxHeartbeats 3200000 in
set_option maxRecDepth 100000 in
theorem tok_p58 {w : World} {p b n cap : Nat} {l : List UInt8} (hS : Src w p b n cap l) (hn : n ≤ 4611686018427387904) (i q : Nat) (hi : i ≤ n) (hs : Skips l i q) (hc : ch l q = 58) :
    Calls Tryz.prog 133 #[.pointer (some ⟨p, 0, none⟩), .int .i64 (i : Int)] w fun x w' => 
      x = .returned (.tuple #[.agg #[.int .i64 7, .int .i64 q, .int .i64 ((q : Int) + 1), .string ⟨#[]⟩], .nilIface]) ∧ Below w.heap.size w w' := by
  obtain ⟨c1, c2, c3⟩ := hS.cells
  have hqn : q < n := by have := ch_lt (l := l) (i := q) (by omega); rw [hS.body.len] at this; exact this
  have hb1 := fun o => (Below.refl _ w).alloc (Nat.le_refl _) o
  have HS := Lib.hid (fun o => skip_any (hS.body.below (hb1 o)) cap i q hn hi hs)
  have HR := Lib.hid (fun o => runeAt_in (hS.body.below (hb1 o)) cap (q : Int) (by omega) (by omega) 58 (by rw [Int.toNat_natCast]; exact hc))
  clear c3 hs hb1 hc
  go_enter Tryz.func133, Tryz.ntmps133
  go_wp2_with (first | (go_at_call 153; refine (HS.out _).mono ?_; rintro x w' ⟨rfl, rfl⟩) | (go_at_call 155; refine (HR.out _).mono ?_; rintro x w' ⟨rfl, rfl⟩) | (go_at_call 154; refine (makeToken_any _ _ _ _ _).mono ?_; rintro x w' ⟨rfl, rfl⟩))
  go_returns
  exact ⟨rfl, by go_grown⟩

set_option maxHeartbeats 3200000 in
set_option maxRecDepth 100000 in
theorem tok_p61 {w : World} {p b n cap : Nat} {l : List UInt8} (hS : Src w p b n cap l) (hn : n ≤ 4611686018427387904) (i q : Nat) (hi : i ≤ n) (hs : Skips l i q) (hc : ch l q = 61) :
    Calls Tryz.prog 133 #[.pointer (some ⟨p, 0, none⟩), .int .i64 (i : Int)] w fun x w' => 
      x = .returned (.tuple #[.agg #[.int .i64 8, .int .i64 q, .int .i64 ((q : Int) + 1), .string ⟨#[]⟩], .nilIface]) ∧ Below w.heap.size w w' := by
  obtain ⟨c1, c2, c3⟩ := hS.cells
  have hqn : q < n := by have := ch_lt (l := l) (i := q) (by omega); rw [hS.body.len] at this; exact this
  have hb1 := fun o => (Below.refl _ w).alloc (Nat.le_refl _) o
  have HS := Lib.hid (fun o => skip_any (hS.body.below (hb1 o)) cap i q hn hi hs)
  have HR := Lib.hid (fun o => runeAt_in (hS.body.below (hb1 o)) cap (q : Int) (by omega) (by omega) 61 (by rw [Int.toNat_natCast]; exact hc))
  clear c3 hs hb1 hc
  go_enter Tryz.func133, Tryz.ntmps133
  go_wp2_with (first | (go_at_call 153; refine (HS.out _).mono ?_; rintro x w' ⟨rfl, rfl⟩) | (go_at_call 155; refine (HR.out _).mono ?_; rintro x w' ⟨rfl, rfl⟩) | (go_at_call 154; refine (makeToken_any _ _ _ _ _).mono ?_; rintro x w' ⟨rfl, rfl⟩))
  go_returns
  exact ⟨rfl, by go_grown⟩

set_option maxHeartbeats 3200000 in
set_option maxRecDepth 100000 in
theorem tok_p64 {w : World} {p b n cap : Nat} {l : List UInt8} (hS : Src w p b n cap l) (hn : n ≤ 4611686018427387904) (i q : Nat) (hi : i ≤ n) (hs : Skips l i q) (hc : ch l q = 64) :
    Calls Tryz.prog 133 #[.pointer (some ⟨p, 0, none⟩), .int .i64 (i : Int)] w fun x w' => 
      x = .returned (.tuple #[.agg #[.int .i64 9, .int .i64 q, .int .i64 ((q : Int) + 1), .string ⟨#[]⟩], .nilIface]) ∧ Below w.heap.size w w' := by
  obtain ⟨c1, c2, c3⟩ := hS.cells
  have hqn : q < n := by have := ch_lt (l := l) (i := q) (by omega); rw [hS.body.len] at this; exact this
  have hb1 := fun o => (Below.refl _ w).alloc (Nat.le_refl _) o
  have HS := Lib.hid (fun o => skip_any (hS.body.below (hb1 o)) cap i q hn hi hs)
  have HR := Lib.hid (fun o => runeAt_in (hS.body.below (hb1 o)) cap (q : Int) (by omega) (by omega) 64 (by rw [Int.toNat_natCast]; exact hc))
  clear c3 hs hb1 hc
  go_enter Tryz.func133, Tryz.ntmps133
  go_wp2_with (first | (go_at_call 153; refine (HS.out _).mono ?_; rintro x w' ⟨rfl, rfl⟩) | (go_at_call 155; refine (HR.out _).mono ?_; rintro x w' ⟨rfl, rfl⟩) | (go_at_call 154; refine (makeToken_any _ _ _ _ _).mono ?_; rintro x w' ⟨rfl, rfl⟩))
  go_returns
  exact ⟨rfl, by go_grown⟩

set_option maxHeartbeats 3200000 in
set_option maxRecDepth 100000 in
theorem tok_p91 {w : World} {p b n cap : Nat} {l : List UInt8} (hS : Src w p b n cap l) (hn : n ≤ 4611686018427387904) (i q : Nat) (hi : i ≤ n) (hs : Skips l i q) (hc : ch l q = 91) :
    Calls Tryz.prog 133 #[.pointer (some ⟨p, 0, none⟩), .int .i64 (i : Int)] w fun x w' => 
      x = .returned (.tuple #[.agg #[.int .i64 10, .int .i64 q, .int .i64 ((q : Int) + 1), .string ⟨#[]⟩], .nilIface]) ∧ Below w.heap.size w w' := by
  obtain ⟨c1, c2, c3⟩ := hS.cells
  have hqn : q < n := by have := ch_lt (l := l) (i := q) (by omega); rw [hS.body.len] at this; exact this
  have hb1 := fun o => (Below.refl _ w).alloc (Nat.le_refl _) o
  have HS := Lib.hid (fun o => skip_any (hS.body.below (hb1 o)) cap i q hn hi hs)
  have HR := Lib.hid (fun o => runeAt_in (hS.body.below (hb1 o)) cap (q : Int) (by omega) (by omega) 91 (by rw [Int.toNat_natCast]; exact hc))
  clear c3 hs hb1 hc
  go_enter Tryz.func133, Tryz.ntmps133
  go_wp2_with (first | (go_at_call 153; refine (HS.out _).mono ?_; rintro x w' ⟨rfl, rfl⟩) | (go_at_call 155; refine (HR.out _).mono ?_; rintro x w' ⟨rfl, rfl⟩) | (go_at_call 154; refine (makeToken_any _ _ _ _ _).mono ?_; rintro x w' ⟨rfl, rfl⟩))
  go_returns
  exact ⟨rfl, by go_grown⟩

set_option maxHeartbeats 3200000 in
set_option maxRecDepth 100000 in
theorem tok_p93 {w : World} {p b n cap : Nat} {l : List UInt8} (hS : Src w p b n cap l) (hn : n ≤ 4611686018427387904) (i q : Nat) (hi : i ≤ n) (hs : Skips l i q) (hc : ch l q = 93) :
    Calls Tryz.prog 133 #[.pointer (some ⟨p, 0, none⟩), .int .i64 (i : Int)] w fun x w' => 
      x = .returned (.tuple #[.agg #[.int .i64 11, .int .i64 q, .int .i64 ((q : Int) + 1), .string ⟨#[]⟩], .nilIface]) ∧ Below w.heap.size w w' := by
  obtain ⟨c1, c2, c3⟩ := hS.cells
  have hqn : q < n := by have := ch_lt (l := l) (i := q) (by omega); rw [hS.body.len] at this; exact this
  have hb1 := fun o => (Below.refl _ w).alloc (Nat.le_refl _) o
  have HS := Lib.hid (fun o => skip_any (hS.body.below (hb1 o)) cap i q hn hi hs)
  have HR := Lib.hid (fun o => runeAt_in (hS.body.below (hb1 o)) cap (q : Int) (by omega) (by omega) 93 (by rw [Int.toNat_natCast]; exact hc))
  clear c3 hs hb1 hc
  go_enter Tryz.func133, Tryz.ntmps133
  go_wp2_with (first | (go_at_call 153; refine (HS.out _).mono ?_; rintro x w' ⟨rfl, rfl⟩) | (go_at_call 155; refine (HR.out _).mono ?_; rintro x w' ⟨rfl, rfl⟩) | (go_at_call 154; refine (makeToken_any _ _ _ _ _).mono ?_; rintro x w' ⟨rfl, rfl⟩))
  go_returns
  exact ⟨rfl, by go_grown⟩

set_option maxHeartbeats 3200000 in
set_option maxRecDepth 100000 in
theorem tok_p123 {w : World} {p b n cap : Nat} {l : List UInt8} (hS : Src w p b n cap l) (hn : n ≤ 4611686018427387904) (i q : Nat) (hi : i ≤ n) (hs : Skips l i q) (hc : ch l q = 123) :
    Calls Tryz.prog 133 #[.pointer (some ⟨p, 0, none⟩), .int .i64 (i : Int)] w fun x w' => 
      x = .returned (.tuple #[.agg #[.int .i64 12, .int .i64 q, .int .i64 ((q : Int) + 1), .string ⟨#[]⟩], .nilIface]) ∧ Below w.heap.size w w' := by
  obtain ⟨c1, c2, c3⟩ := hS.cells
  have hqn : q < n := by have := ch_lt (l := l) (i := q) (by omega); rw [hS.body.len] at this; exact this
  have hb1 := fun o => (Below.refl _ w).alloc (Nat.le_refl _) o
  have HS := Lib.hid (fun o => skip_any (hS.body.below (hb1 o)) cap i q hn hi hs)
  have HR := Lib.hid (fun o => runeAt_in (hS.body.below (hb1 o)) cap (q : Int) (by omega) (by omega) 123 (by rw [Int.toNat_natCast]; exact hc))
  clear c3 hs hb1 hc
  go_enter Tryz.func133, Tryz.ntmps133
  go_wp2_with (first | (go_at_call 153; refine (HS.out _).mono ?_; rintro x w' ⟨rfl, rfl⟩) | (go_at_call 155; refine (HR.out _).mono ?_; rintro x w' ⟨rfl, rfl⟩) | (go_at_call 154; refine (makeToken_any _ _ _ _ _).mono ?_; rintro x w' ⟨rfl, rfl⟩))
  go_returns
  exact ⟨rfl, by go_grown⟩

set_option maxHeartbeats 3200000 in
set_option maxRecDepth 100000 in
theorem tok_p124 {w : World} {p b n cap : Nat} {l : List UInt8} (hS : Src w p b n cap l) (hn : n ≤ 4611686018427387904) (i q : Nat) (hi : i ≤ n) (hs : Skips l i q) (hc : ch l q = 124) :
    Calls Tryz.prog 133 #[.pointer (some ⟨p, 0, none⟩), .int .i64 (i : Int)] w fun x w' => 
      x = .returned (.tuple #[.agg #[.int .i64 13, .int .i64 q, .int .i64 ((q : Int) + 1), .string ⟨#[]⟩], .nilIface]) ∧ Below w.heap.size w w' := by
  obtain ⟨c1, c2, c3⟩ := hS.cells
  have hqn : q < n := by have := ch_lt (l := l) (i := q) (by omega); rw [hS.body.len] at this; exact this
  have hb1 := fun o => (Below.refl _ w).alloc (Nat.le_refl _) o
  have HS := Lib.hid (fun o => skip_any (hS.body.below (hb1 o)) cap i q hn hi hs)
  have HR := Lib.hid (fun o => runeAt_in (hS.body.below (hb1 o)) cap (q : Int) (by omega) (by omega) 124 (by rw [Int.toNat_natCast]; exact hc))
  clear c3 hs hb1 hc
  go_enter Tryz.func133, Tryz.ntmps133
  go_wp2_with (first | (go_at_call 153; refine (HS.out _).mono ?_; rintro x w' ⟨rfl, rfl⟩) | (go_at_call 155; refine (HR.out _).mono ?_; rintro x w' ⟨rfl, rfl⟩) | (go_at_call 154; refine (makeToken_any _ _ _ _ _).mono ?_; rintro x w' ⟨rfl, rfl⟩))
  go_returns
  exact ⟨rfl, by go_grown⟩

set_option maxHeartbeats 3200000 in
set_option maxRecDepth 100000 in
theorem tok_p125 {w : World} {p b n cap : Nat} {l : List UInt8} (hS : Src w p b n cap l) (hn : n ≤ 4611686018427387904) (i q : Nat) (hi : i ≤ n) (hs : Skips l i q) (hc : ch l q = 125) :
    Calls Tryz.prog 133 #[.pointer (some ⟨p, 0, none⟩), .int .i64 (i : Int)] w fun x w' => 
      x = .returned (.tuple #[.agg #[.int .i64 14, .int .i64 q, .int .i64 ((q : Int) + 1), .string ⟨#[]⟩], .nilIface]) ∧ Below w.heap.size w w' := by
  obtain ⟨c1, c2, c3⟩ := hS.cells
  have hqn : q < n := by have := ch_lt (l := l) (i := q) (by omega); rw [hS.body.len] at this; exact this
  have hb1 := fun o => (Below.refl _ w).alloc (Nat.le_refl _) o
  have HS := Lib.hid (fun o => skip_any (hS.body.below (hb1 o)) cap i q hn hi hs)
  have HR := Lib.hid (fun o => runeAt_in (hS.body.below (hb1 o)) cap (q : Int) (by omega) (by omega) 125 (by rw [Int.toNat_natCast]; exact hc))
  clear c3 hs hb1 hc
  go_enter Tryz.func133, Tryz.ntmps133
  go_wp2_with (first | (go_at_call 153; refine (HS.out _).mono ?_; rintro x w' ⟨rfl, rfl⟩) | (go_at_call 155; refine (HR.out _).mono ?_; rintro x w' ⟨rfl, rfl⟩) | (go_at_call 154; refine (makeToken_any _ _ _ _ _).mono ?_; rintro x w' ⟨rfl, rfl⟩))
  go_returns
  exact ⟨rfl, by go_grown⟩

end Go.Proofs.YtannihddhebcpaaGreatDoor
