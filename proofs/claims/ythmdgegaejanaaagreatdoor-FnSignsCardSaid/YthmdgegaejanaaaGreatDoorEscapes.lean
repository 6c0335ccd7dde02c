/- ESCAPES: the walk of FnEscape: true at every input. -/
import Derived.Test.YthmdgegaejanaaaGreatDoorLawEscapes
namespace Go.Proofs.YthmdgegaejanaaaGreatDoor
open Go.RowKit

theorem one_string (x : UInt8) (w : World) : (convert 32 9 (.slice (some ⟨w.heap.size, 0, none⟩) 1 1)).run Tryz.prog (w.alloc (.cells #[.int .u8 (x.toNat : Int)] 5)) = .ok (.string ⟨#[x]⟩) (w.alloc (.cells #[.int .u8 (x.toNat : Int)] 5)) := by
  have hc : Lib.Bytes (w.alloc (.cells #[.int .u8 (x.toNat : Int)] 5)) w.heap.size 0 ⟨#[x]⟩ := by
    intro i hi
    have hi' : i < 1 := hi
    obtain rfl : i = 0 := by omega
    rw [World.cell?_alloc_at _ _ _ _ rfl]
    rfl
  have := Lib.run_convert_window (P := Tryz.prog) _ 32 5 9 Tryz.underlying32 Tryz.underlying5 Tryz.underlying9 w.heap.size 0 ⟨#[x]⟩ hc 0 1 1 (by show 1 ≤ 1; omega)
  rw [show (⟨#[x]⟩ : ByteArray).extract 0 (0 + 1) = ⟨#[x]⟩ by apply ByteArray.ext; apply Array.toList_inj.1; rw [Lib.extract_data]; rfl] at this
  exact this

theorem below_iter (w : World) (o : Obj) (s : ByteArray) (k : Nat) : Below w.heap.size w ((w.alloc o).iter s k) := ((Below.refl _ w).alloc (Nat.le_refl _) o).alloc (by simp) (.stringIter s k)
theorem next_at (w : World) (o : Obj) (k : Nat) (i : Int) (k' : Nat) (hk : k < 8) (hi : i = (k : Int)) (hk' : k' = k + 1) (ty : TypeId) :
    ∃ r, (Instr.next (.pointer (some ⟨w.heap.size + 1, 0, none⟩)) true ty).run Tryz.prog ((w.alloc o).iter ⟨#[98, 102, 110, 114, 116, 34, 92, 47]⟩ k) = .ok (.tuple #[.bool true, .int .i64 i, .int .i32 r]) ((w.alloc o).iter ⟨#[98, 102, 110, 114, 116, 34, 92, 47]⟩ k') := by
  subst hi hk'
  have h : k < (⟨#[98, 102, 110, 114, 116, 34, 92, 47]⟩ : ByteArray).size := hk
  have := run_next_ascii (P := Tryz.prog) (w.alloc o) ⟨#[98, 102, 110, 114, 116, 34, 92, 47]⟩ k ty h (by
    match k, hk with
    | 0, _ => exact (show (98 : UInt8).toNat < 128 by decide)
    | 1, _ => exact (show (102 : UInt8).toNat < 128 by decide)
    | 2, _ => exact (show (110 : UInt8).toNat < 128 by decide)
    | 3, _ => exact (show (114 : UInt8).toNat < 128 by decide)
    | 4, _ => exact (show (116 : UInt8).toNat < 128 by decide)
    | 5, _ => exact (show (34 : UInt8).toNat < 128 by decide)
    | 6, _ => exact (show (92 : UInt8).toNat < 128 by decide)
    | 7, _ => exact (show (47 : UInt8).toNat < 128 by decide))
  rw [show (w.alloc o).heap.size = w.heap.size + 1 by simp] at this
  exact ⟨_, this⟩
theorem next_last (w : World) (o : Obj) (ty : TypeId) :
    (Instr.next (.pointer (some ⟨w.heap.size + 1, 0, none⟩)) true ty).run Tryz.prog ((w.alloc o).iter ⟨#[98, 102, 110, 114, 116, 34, 92, 47]⟩ 8) = .ok (.tuple #[.bool false]) ((w.alloc o).iter ⟨#[98, 102, 110, 114, 116, 34, 92, 47]⟩ 8) := by
  have := run_next_end (P := Tryz.prog) (w.alloc o) ⟨#[98, 102, 110, 114, 116, 34, 92, 47]⟩ 8 ty (by decide)
  rwa [show (w.alloc o).heap.size = w.heap.size + 1 by simp] at this

set_option maxHeartbeats 1600000 in
set_option maxRecDepth 100000 in
theorem escapes_out (c : Int) (w : World) (h : c < 32 ∨ (32 ≤ c ∧ 126 < c) ∨ (32 ≤ c ∧ c ≤ 126 ∧ c = 117)) :
    Calls Tryz.prog 5 #[.int .u8 c] w fun y w' => y = .returned (.bool true) ∧ w = w' := by
  rcases h with h | ⟨h0, h⟩ | ⟨h0, h1, rfl⟩
  all_goals
    go_enter Tryz.func5, Tryz.ntmps5
    go_wp2_with fail
    go_ret
    exact ⟨rfl, rfl⟩

set_option maxHeartbeats 6400000 in
set_option maxRecDepth 100000 in
theorem escapes_bad (x : UInt8) (w : World) (h0 : 32 ≤ (x.toNat : Int)) (h1 : (x.toNat : Int) ≤ 126) (hx : ¬ Escaped (x.toNat : Int)) :
    Calls Tryz.prog 5 #[.int .u8 (x.toNat : Int)] w fun y w' => y = .returned (.bool true) ∧ Below w.heap.size w w' := by
  have hT := esc_bend x h0 h1 hx
  have HT := Lib.hid (fun w => sure_of _ _ _ _ (fun w => lexed_one _ 0 true false hT.one hT.some (.inl rfl) w) w)
  have HR := Lib.hid (fun w => refused_yes _ hT.bad w)
  have hcv := one_string x w
  unfold escT at HT HR
  unfold Escaped at hx
  generalize (x.toNat : Int) = c at *
  have b0 : (c == 117) = false := by simp; omega
  have b1 : ((((⟨#[98, 102, 110, 114, 116, 34, 92, 47]⟩ : ByteArray)[0]'(by decide)).toNat : Int) == c) = false := by
    show ((98 : Int) == c) = false
    simp; omega
  have b2 : ((((⟨#[98, 102, 110, 114, 116, 34, 92, 47]⟩ : ByteArray)[1]'(by decide)).toNat : Int) == c) = false := by
    show ((102 : Int) == c) = false
    simp; omega
  have b3 : ((((⟨#[98, 102, 110, 114, 116, 34, 92, 47]⟩ : ByteArray)[2]'(by decide)).toNat : Int) == c) = false := by
    show ((110 : Int) == c) = false
    simp; omega
  have b4 : ((((⟨#[98, 102, 110, 114, 116, 34, 92, 47]⟩ : ByteArray)[3]'(by decide)).toNat : Int) == c) = false := by
    show ((114 : Int) == c) = false
    simp; omega
  have b5 : ((((⟨#[98, 102, 110, 114, 116, 34, 92, 47]⟩ : ByteArray)[4]'(by decide)).toNat : Int) == c) = false := by
    show ((116 : Int) == c) = false
    simp; omega
  have b6 : ((((⟨#[98, 102, 110, 114, 116, 34, 92, 47]⟩ : ByteArray)[5]'(by decide)).toNat : Int) == c) = false := by
    show ((34 : Int) == c) = false
    simp; omega
  have b7 : ((((⟨#[98, 102, 110, 114, 116, 34, 92, 47]⟩ : ByteArray)[6]'(by decide)).toNat : Int) == c) = false := by
    show ((92 : Int) == c) = false
    simp; omega
  have b8 : ((((⟨#[98, 102, 110, 114, 116, 34, 92, 47]⟩ : ByteArray)[7]'(by decide)).toNat : Int) == c) = false := by
    show ((47 : Int) == c) = false
    simp; omega
  obtain ⟨r0, n0⟩ := next_at w (.cells #[.int .u8 c] 5) 0 0 1 (by omega) rfl rfl 0
  obtain ⟨r1, n1⟩ := next_at w (.cells #[.int .u8 c] 5) 1 1 2 (by omega) rfl rfl 0
  obtain ⟨r2, n2⟩ := next_at w (.cells #[.int .u8 c] 5) 2 2 3 (by omega) rfl rfl 0
  obtain ⟨r3, n3⟩ := next_at w (.cells #[.int .u8 c] 5) 3 3 4 (by omega) rfl rfl 0
  obtain ⟨r4, n4⟩ := next_at w (.cells #[.int .u8 c] 5) 4 4 5 (by omega) rfl rfl 0
  obtain ⟨r5, n5⟩ := next_at w (.cells #[.int .u8 c] 5) 5 5 6 (by omega) rfl rfl 0
  obtain ⟨r6, n6⟩ := next_at w (.cells #[.int .u8 c] 5) 6 6 7 (by omega) rfl rfl 0
  obtain ⟨r7, n7⟩ := next_at w (.cells #[.int .u8 c] 5) 7 7 8 (by omega) rfl rfl 0
  have n8 := next_last w (.cells #[.int .u8 c] 5) 0
  clear hT hx
  go_enter Tryz.func5, Tryz.ntmps5
  go_wp2_with fail
  refine wp_loop_rounds 9 ?_
  iterate 9
    rw [rounds_succ]
    go_wp2_with fail
  refine (HT.out _).mono ?_
  rintro y w1 ⟨rfl, hb⟩
  have HB := Lib.hid ((below_iter w (.cells #[.int .u8 c] 5) ⟨#[98, 102, 110, 114, 116, 34, 92, 47]⟩ 8).trans (hb.mono (below_iter w _ _ _).size))
  clear hb
  go_wp2_with fail
  refine (HR.out _).mono ?_
  rintro y w2 ⟨rfl, hb⟩
  have HB2 := Lib.hid (HB.out.trans (hb.mono HB.out.size))
  clear hb
  go_wp2_with fail
  go_ret
  exact ⟨rfl, HB2.out⟩

set_option maxHeartbeats 6400000 in
set_option maxRecDepth 100000 in
theorem escapes_98 (w : World) :
    Calls Tryz.prog 5 #[.int .u8 98] w fun y w' => y = .returned (.bool true) ∧ Below w.heap.size w w' := by
  have he : (⟨#[8, 12, 10, 13, 9, 34, 92, 47]⟩ : ByteArray).extract 0 1 = ⟨#[8]⟩ := by
    apply ByteArray.ext
    apply Array.toList_inj.1
    rw [Lib.extract_data]
    rfl
  have HO := Lib.hid (fun w => only_yes (escT 98) ⟨#[8]⟩ 18 (fun W => esc_tokens 98 8 (by unfold EscTo; simp) W) w)
  rw [← he] at HO
  have hcv := one_string 98 w
  rw [show ((98 : UInt8).toNat : Int) = 98 by rfl] at hcv
  unfold escT at HO
  obtain ⟨r0, n0⟩ := next_at w (.cells #[.int .u8 98] 5) 0 0 1 (by omega) rfl rfl 0
  clear he
  go_enter Tryz.func5, Tryz.ntmps5
  go_wp2_with fail
  refine wp_loop_rounds 1 ?_
  iterate 1
    rw [rounds_succ]
    go_wp2_with fail
  refine (HO.out _).mono ?_
  rintro y w1 ⟨rfl, hb⟩
  have HB := Lib.hid ((below_iter w (.cells #[.int .u8 98] 5) ⟨#[98, 102, 110, 114, 116, 34, 92, 47]⟩ 1).trans (hb.mono (below_iter w _ _ _).size))
  clear hb
  go_wp2_with fail
  go_ret
  exact ⟨rfl, HB.out⟩

set_option maxHeartbeats 6400000 in
set_option maxRecDepth 100000 in
theorem escapes_102 (w : World) :
    Calls Tryz.prog 5 #[.int .u8 102] w fun y w' => y = .returned (.bool true) ∧ Below w.heap.size w w' := by
  have he : (⟨#[8, 12, 10, 13, 9, 34, 92, 47]⟩ : ByteArray).extract 1 2 = ⟨#[12]⟩ := by
    apply ByteArray.ext
    apply Array.toList_inj.1
    rw [Lib.extract_data]
    rfl
  have HO := Lib.hid (fun w => only_yes (escT 102) ⟨#[12]⟩ 18 (fun W => esc_tokens 102 12 (by unfold EscTo; simp) W) w)
  rw [← he] at HO
  have hcv := one_string 102 w
  rw [show ((102 : UInt8).toNat : Int) = 102 by rfl] at hcv
  unfold escT at HO
  obtain ⟨r0, n0⟩ := next_at w (.cells #[.int .u8 102] 5) 0 0 1 (by omega) rfl rfl 0
  obtain ⟨r1, n1⟩ := next_at w (.cells #[.int .u8 102] 5) 1 1 2 (by omega) rfl rfl 0
  clear he
  go_enter Tryz.func5, Tryz.ntmps5
  go_wp2_with fail
  refine wp_loop_rounds 2 ?_
  iterate 2
    rw [rounds_succ]
    go_wp2_with fail
  refine (HO.out _).mono ?_
  rintro y w1 ⟨rfl, hb⟩
  have HB := Lib.hid ((below_iter w (.cells #[.int .u8 102] 5) ⟨#[98, 102, 110, 114, 116, 34, 92, 47]⟩ 2).trans (hb.mono (below_iter w _ _ _).size))
  clear hb
  go_wp2_with fail
  go_ret
  exact ⟨rfl, HB.out⟩

set_option maxHeartbeats 6400000 in
set_option maxRecDepth 100000 in
theorem escapes_110 (w : World) :
    Calls Tryz.prog 5 #[.int .u8 110] w fun y w' => y = .returned (.bool true) ∧ Below w.heap.size w w' := by
  have he : (⟨#[8, 12, 10, 13, 9, 34, 92, 47]⟩ : ByteArray).extract 2 3 = ⟨#[10]⟩ := by
    apply ByteArray.ext
    apply Array.toList_inj.1
    rw [Lib.extract_data]
    rfl
  have HO := Lib.hid (fun w => only_yes (escT 110) ⟨#[10]⟩ 18 (fun W => esc_tokens 110 10 (by unfold EscTo; simp) W) w)
  rw [← he] at HO
  have hcv := one_string 110 w
  rw [show ((110 : UInt8).toNat : Int) = 110 by rfl] at hcv
  unfold escT at HO
  obtain ⟨r0, n0⟩ := next_at w (.cells #[.int .u8 110] 5) 0 0 1 (by omega) rfl rfl 0
  obtain ⟨r1, n1⟩ := next_at w (.cells #[.int .u8 110] 5) 1 1 2 (by omega) rfl rfl 0
  obtain ⟨r2, n2⟩ := next_at w (.cells #[.int .u8 110] 5) 2 2 3 (by omega) rfl rfl 0
  clear he
  go_enter Tryz.func5, Tryz.ntmps5
  go_wp2_with fail
  refine wp_loop_rounds 3 ?_
  iterate 3
    rw [rounds_succ]
    go_wp2_with fail
  refine (HO.out _).mono ?_
  rintro y w1 ⟨rfl, hb⟩
  have HB := Lib.hid ((below_iter w (.cells #[.int .u8 110] 5) ⟨#[98, 102, 110, 114, 116, 34, 92, 47]⟩ 3).trans (hb.mono (below_iter w _ _ _).size))
  clear hb
  go_wp2_with fail
  go_ret
  exact ⟨rfl, HB.out⟩

set_option maxHeartbeats 6400000 in
set_option maxRecDepth 100000 in
theorem escapes_114 (w : World) :
    Calls Tryz.prog 5 #[.int .u8 114] w fun y w' => y = .returned (.bool true) ∧ Below w.heap.size w w' := by
  have he : (⟨#[8, 12, 10, 13, 9, 34, 92, 47]⟩ : ByteArray).extract 3 4 = ⟨#[13]⟩ := by
    apply ByteArray.ext
    apply Array.toList_inj.1
    rw [Lib.extract_data]
    rfl
  have HO := Lib.hid (fun w => only_yes (escT 114) ⟨#[13]⟩ 18 (fun W => esc_tokens 114 13 (by unfold EscTo; simp) W) w)
  rw [← he] at HO
  have hcv := one_string 114 w
  rw [show ((114 : UInt8).toNat : Int) = 114 by rfl] at hcv
  unfold escT at HO
  obtain ⟨r0, n0⟩ := next_at w (.cells #[.int .u8 114] 5) 0 0 1 (by omega) rfl rfl 0
  obtain ⟨r1, n1⟩ := next_at w (.cells #[.int .u8 114] 5) 1 1 2 (by omega) rfl rfl 0
  obtain ⟨r2, n2⟩ := next_at w (.cells #[.int .u8 114] 5) 2 2 3 (by omega) rfl rfl 0
  obtain ⟨r3, n3⟩ := next_at w (.cells #[.int .u8 114] 5) 3 3 4 (by omega) rfl rfl 0
  clear he
  go_enter Tryz.func5, Tryz.ntmps5
  go_wp2_with fail
  refine wp_loop_rounds 4 ?_
  iterate 4
    rw [rounds_succ]
    go_wp2_with fail
  refine (HO.out _).mono ?_
  rintro y w1 ⟨rfl, hb⟩
  have HB := Lib.hid ((below_iter w (.cells #[.int .u8 114] 5) ⟨#[98, 102, 110, 114, 116, 34, 92, 47]⟩ 4).trans (hb.mono (below_iter w _ _ _).size))
  clear hb
  go_wp2_with fail
  go_ret
  exact ⟨rfl, HB.out⟩

set_option maxHeartbeats 6400000 in
set_option maxRecDepth 100000 in
theorem escapes_116 (w : World) :
    Calls Tryz.prog 5 #[.int .u8 116] w fun y w' => y = .returned (.bool true) ∧ Below w.heap.size w w' := by
  have he : (⟨#[8, 12, 10, 13, 9, 34, 92, 47]⟩ : ByteArray).extract 4 5 = ⟨#[9]⟩ := by
    apply ByteArray.ext
    apply Array.toList_inj.1
    rw [Lib.extract_data]
    rfl
  have HO := Lib.hid (fun w => only_yes (escT 116) ⟨#[9]⟩ 18 (fun W => esc_tokens 116 9 (by unfold EscTo; simp) W) w)
  rw [← he] at HO
  have hcv := one_string 116 w
  rw [show ((116 : UInt8).toNat : Int) = 116 by rfl] at hcv
  unfold escT at HO
  obtain ⟨r0, n0⟩ := next_at w (.cells #[.int .u8 116] 5) 0 0 1 (by omega) rfl rfl 0
  obtain ⟨r1, n1⟩ := next_at w (.cells #[.int .u8 116] 5) 1 1 2 (by omega) rfl rfl 0
  obtain ⟨r2, n2⟩ := next_at w (.cells #[.int .u8 116] 5) 2 2 3 (by omega) rfl rfl 0
  obtain ⟨r3, n3⟩ := next_at w (.cells #[.int .u8 116] 5) 3 3 4 (by omega) rfl rfl 0
  obtain ⟨r4, n4⟩ := next_at w (.cells #[.int .u8 116] 5) 4 4 5 (by omega) rfl rfl 0
  clear he
  go_enter Tryz.func5, Tryz.ntmps5
  go_wp2_with fail
  refine wp_loop_rounds 5 ?_
  iterate 5
    rw [rounds_succ]
    go_wp2_with fail
  refine (HO.out _).mono ?_
  rintro y w1 ⟨rfl, hb⟩
  have HB := Lib.hid ((below_iter w (.cells #[.int .u8 116] 5) ⟨#[98, 102, 110, 114, 116, 34, 92, 47]⟩ 5).trans (hb.mono (below_iter w _ _ _).size))
  clear hb
  go_wp2_with fail
  go_ret
  exact ⟨rfl, HB.out⟩

set_option maxHeartbeats 6400000 in
set_option maxRecDepth 100000 in
theorem escapes_34 (w : World) :
    Calls Tryz.prog 5 #[.int .u8 34] w fun y w' => y = .returned (.bool true) ∧ Below w.heap.size w w' := by
  have he : (⟨#[8, 12, 10, 13, 9, 34, 92, 47]⟩ : ByteArray).extract 5 6 = ⟨#[34]⟩ := by
    apply ByteArray.ext
    apply Array.toList_inj.1
    rw [Lib.extract_data]
    rfl
  have HO := Lib.hid (fun w => only_yes (escT 34) ⟨#[34]⟩ 18 (fun W => esc_tokens 34 34 (by unfold EscTo; simp) W) w)
  rw [← he] at HO
  have hcv := one_string 34 w
  rw [show ((34 : UInt8).toNat : Int) = 34 by rfl] at hcv
  unfold escT at HO
  obtain ⟨r0, n0⟩ := next_at w (.cells #[.int .u8 34] 5) 0 0 1 (by omega) rfl rfl 0
  obtain ⟨r1, n1⟩ := next_at w (.cells #[.int .u8 34] 5) 1 1 2 (by omega) rfl rfl 0
  obtain ⟨r2, n2⟩ := next_at w (.cells #[.int .u8 34] 5) 2 2 3 (by omega) rfl rfl 0
  obtain ⟨r3, n3⟩ := next_at w (.cells #[.int .u8 34] 5) 3 3 4 (by omega) rfl rfl 0
  obtain ⟨r4, n4⟩ := next_at w (.cells #[.int .u8 34] 5) 4 4 5 (by omega) rfl rfl 0
  obtain ⟨r5, n5⟩ := next_at w (.cells #[.int .u8 34] 5) 5 5 6 (by omega) rfl rfl 0
  clear he
  go_enter Tryz.func5, Tryz.ntmps5
  go_wp2_with fail
  refine wp_loop_rounds 6 ?_
  iterate 6
    rw [rounds_succ]
    go_wp2_with fail
  refine (HO.out _).mono ?_
  rintro y w1 ⟨rfl, hb⟩
  have HB := Lib.hid ((below_iter w (.cells #[.int .u8 34] 5) ⟨#[98, 102, 110, 114, 116, 34, 92, 47]⟩ 6).trans (hb.mono (below_iter w _ _ _).size))
  clear hb
  go_wp2_with fail
  go_ret
  exact ⟨rfl, HB.out⟩

set_option maxHeartbeats 6400000 in
set_option maxRecDepth 100000 in
theorem escapes_92 (w : World) :
    Calls Tryz.prog 5 #[.int .u8 92] w fun y w' => y = .returned (.bool true) ∧ Below w.heap.size w w' := by
  have he : (⟨#[8, 12, 10, 13, 9, 34, 92, 47]⟩ : ByteArray).extract 6 7 = ⟨#[92]⟩ := by
    apply ByteArray.ext
    apply Array.toList_inj.1
    rw [Lib.extract_data]
    rfl
  have HO := Lib.hid (fun w => only_yes (escT 92) ⟨#[92]⟩ 18 (fun W => esc_tokens 92 92 (by unfold EscTo; simp) W) w)
  rw [← he] at HO
  have hcv := one_string 92 w
  rw [show ((92 : UInt8).toNat : Int) = 92 by rfl] at hcv
  unfold escT at HO
  obtain ⟨r0, n0⟩ := next_at w (.cells #[.int .u8 92] 5) 0 0 1 (by omega) rfl rfl 0
  obtain ⟨r1, n1⟩ := next_at w (.cells #[.int .u8 92] 5) 1 1 2 (by omega) rfl rfl 0
  obtain ⟨r2, n2⟩ := next_at w (.cells #[.int .u8 92] 5) 2 2 3 (by omega) rfl rfl 0
  obtain ⟨r3, n3⟩ := next_at w (.cells #[.int .u8 92] 5) 3 3 4 (by omega) rfl rfl 0
  obtain ⟨r4, n4⟩ := next_at w (.cells #[.int .u8 92] 5) 4 4 5 (by omega) rfl rfl 0
  obtain ⟨r5, n5⟩ := next_at w (.cells #[.int .u8 92] 5) 5 5 6 (by omega) rfl rfl 0
  obtain ⟨r6, n6⟩ := next_at w (.cells #[.int .u8 92] 5) 6 6 7 (by omega) rfl rfl 0
  clear he
  go_enter Tryz.func5, Tryz.ntmps5
  go_wp2_with fail
  refine wp_loop_rounds 7 ?_
  iterate 7
    rw [rounds_succ]
    go_wp2_with fail
  refine (HO.out _).mono ?_
  rintro y w1 ⟨rfl, hb⟩
  have HB := Lib.hid ((below_iter w (.cells #[.int .u8 92] 5) ⟨#[98, 102, 110, 114, 116, 34, 92, 47]⟩ 7).trans (hb.mono (below_iter w _ _ _).size))
  clear hb
  go_wp2_with fail
  go_ret
  exact ⟨rfl, HB.out⟩

set_option maxHeartbeats 6400000 in
set_option maxRecDepth 100000 in
theorem escapes_47 (w : World) :
    Calls Tryz.prog 5 #[.int .u8 47] w fun y w' => y = .returned (.bool true) ∧ Below w.heap.size w w' := by
  have he : (⟨#[8, 12, 10, 13, 9, 34, 92, 47]⟩ : ByteArray).extract 7 8 = ⟨#[47]⟩ := by
    apply ByteArray.ext
    apply Array.toList_inj.1
    rw [Lib.extract_data]
    rfl
  have HO := Lib.hid (fun w => only_yes (escT 47) ⟨#[47]⟩ 18 (fun W => esc_tokens 47 47 (by unfold EscTo; simp) W) w)
  rw [← he] at HO
  have hcv := one_string 47 w
  rw [show ((47 : UInt8).toNat : Int) = 47 by rfl] at hcv
  unfold escT at HO
  obtain ⟨r0, n0⟩ := next_at w (.cells #[.int .u8 47] 5) 0 0 1 (by omega) rfl rfl 0
  obtain ⟨r1, n1⟩ := next_at w (.cells #[.int .u8 47] 5) 1 1 2 (by omega) rfl rfl 0
  obtain ⟨r2, n2⟩ := next_at w (.cells #[.int .u8 47] 5) 2 2 3 (by omega) rfl rfl 0
  obtain ⟨r3, n3⟩ := next_at w (.cells #[.int .u8 47] 5) 3 3 4 (by omega) rfl rfl 0
  obtain ⟨r4, n4⟩ := next_at w (.cells #[.int .u8 47] 5) 4 4 5 (by omega) rfl rfl 0
  obtain ⟨r5, n5⟩ := next_at w (.cells #[.int .u8 47] 5) 5 5 6 (by omega) rfl rfl 0
  obtain ⟨r6, n6⟩ := next_at w (.cells #[.int .u8 47] 5) 6 6 7 (by omega) rfl rfl 0
  obtain ⟨r7, n7⟩ := next_at w (.cells #[.int .u8 47] 5) 7 7 8 (by omega) rfl rfl 0
  clear he
  go_enter Tryz.func5, Tryz.ntmps5
  go_wp2_with fail
  refine wp_loop_rounds 8 ?_
  iterate 8
    rw [rounds_succ]
    go_wp2_with fail
  refine (HO.out _).mono ?_
  rintro y w1 ⟨rfl, hb⟩
  have HB := Lib.hid ((below_iter w (.cells #[.int .u8 47] 5) ⟨#[98, 102, 110, 114, 116, 34, 92, 47]⟩ 8).trans (hb.mono (below_iter w _ _ _).size))
  clear hb
  go_wp2_with fail
  go_ret
  exact ⟨rfl, HB.out⟩

/-- FnEscape: true, whatever the input. -/
theorem escapes_any (c : Int) (hc : 0 ≤ c ∧ c ≤ 255) (w : World) :
    Calls Tryz.prog 5 #[.int .u8 c] w fun y w' => y = .returned (.bool true) ∧ Below w.heap.size w w' := by
  have low : ∀ (x : Ending) (w' : World), x = .returned (.bool true) ∧ w = w' → x = .returned (.bool true) ∧ Below w.heap.size w w' := fun x w' ⟨h, h'⟩ => ⟨h, by rw [← h']; exact Below.refl _ _⟩
  by_cases h0 : 32 ≤ c
  · by_cases h1 : c ≤ 126
    · by_cases h2 : c = 117
      · exact (escapes_out c w (.inr (.inr ⟨h0, h1, h2⟩))).mono low
      · by_cases hx : Escaped c
        · rcases hx with rfl | rfl | rfl | rfl | rfl | rfl | rfl | rfl | rfl
          · exact escapes_34 w
          · exact escapes_47 w
          · exact escapes_92 w
          · exact escapes_98 w
          · exact escapes_102 w
          · exact escapes_110 w
          · exact escapes_114 w
          · exact escapes_116 w
          · exact absurd rfl h2
        · obtain ⟨x, rfl⟩ : ∃ x : UInt8, c = (x.toNat : Int) := ⟨UInt8.ofNat c.toNat, by simp; omega⟩
          exact escapes_bad x w h0 h1 hx
    · exact (escapes_out c w (.inr (.inl ⟨h0, by omega⟩))).mono low
  · exact (escapes_out c w (.inl (by omega))).mono low

end Go.Proofs.YthmdgegaejanaaaGreatDoor
