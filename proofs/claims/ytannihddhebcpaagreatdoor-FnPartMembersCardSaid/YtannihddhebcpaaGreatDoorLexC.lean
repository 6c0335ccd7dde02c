/- NAMES (readName), over texts of ASCII. -/
import Derived.Test.YtannihddhebcpaaGreatDoorLexA
namespace Go.Proofs.YtannihddhebcpaaGreatDoor
open Go.RowKit

/-- The bytes from i to e. -/
def sub (l : List UInt8) (i e : Nat) : ByteArray := ⟨((l.drop i).take (e - i)).toArray⟩

/-- Block p holds a source whose body is the text l. -/
structure Src (w : World) (p b n cap : Nat) (l : List UInt8) : Prop where
  body : Body w b n l
  lt : p < w.heap.size
  cell : w.cell? ⟨p, 0, none⟩ = some (.slice (some ⟨b, 0, none⟩) n cap)
  cap : n ≤ cap

theorem Src.below {w w' : World} {p b n cap : Nat} {l : List UInt8} (h : Src w p b n cap l) (hb : Below w.heap.size w w') : Src w' p b n cap l :=
  ⟨h.body.below hb, by have := hb.size; have := h.lt; omega, (hb.cell (p := ⟨p, 0, none⟩) h.lt).trans h.cell, h.cap⟩

theorem Body.bytes {w : World} {b n : Nat} {l : List UInt8} (h : Body w b n l) : Lib.Bytes w b 0 ⟨l.toArray⟩ := by
  intro i hi
  have hi' : i < l.length := by
    have h1 : (⟨l.toArray⟩ : ByteArray).size = l.length := by show l.toArray.size = _; simp
    omega
  rw [Nat.zero_add, h.cell i (by rw [← h.len]; exact hi'), ch_get hi']
  rfl
theorem sub_extract (l : List UInt8) (i e : Nat) : (⟨l.toArray⟩ : ByteArray).extract i e = sub l i e := by
  unfold sub
  apply ByteArray.ext
  apply Array.toList_inj.1
  rw [Lib.extract_data]

/-- 'string(body[i:e])'. -/
theorem run_string {w : World} {b n : Nat} {l : List UInt8} (h : Body w b n l) (i e c : Nat) (hie : i ≤ e) (he : e ≤ n) :
    (convert 102 9 (.slice (some ⟨b, i, none⟩) (e - i) c)).run Tryz.prog w = .ok (.string (sub l i e)) w := by
  have := Lib.run_convert_window (P := Tryz.prog) w 102 5 9 Tryz.underlying102 Tryz.underlying5 Tryz.underlying9 b 0 ⟨l.toArray⟩ h.bytes i (e - i) c (by show i + (e - i) ≤ l.toArray.size; simp [h.len]; omega)
  rw [Nat.zero_add] at this
  rw [this, show i + (e - i) = e by omega, sub_extract]

/-- 'body[i:e]', i < e. -/
theorem run_cut (W : World) (b n cap i e : Nat) (h : i < e) (he : e ≤ cap) :
    (Instr.slice 102 (.slice (some ⟨b, 0, none⟩) n cap) (some (.int .i64 (i : Int))) (some (.int .i64 (e : Int))) none).run Tryz.prog W = .ok (.slice (some ⟨b, i, none⟩) (e - i) (cap - i)) W := by
  have := Lib.run_slice_window (P := Tryz.prog) W 102 5 Tryz.underlying102 (fun w => by kernel_rfl) b 0 n cap i e h he
  rwa [Nat.zero_add] at this

set_option maxHeartbeats 1600000 in
set_option maxRecDepth 100000 in
theorem name_any {w : World} {p b n cap : Nat} {l : List UInt8} (hS : Src w p b n cap l) (i e : Nat) (hn : n ≤ 4611686018427387904) (hie : i < e) (hen : e ≤ n)
    (hin : ∀ j, i < j → j < e → NameChar (ch l j)) (hout : ¬ NameChar (ch l e)) :
    Calls Tryz.prog 156 #[.pointer (some ⟨p, 0, none⟩), .int .i64 (i : Int), .int .i64 (i : Int)] w fun x w' => x = .returned (.agg #[.int .i64 15, .int .i64 i, .int .i64 e, .string (sub l i e)]) ∧ Below w.heap.size w w' := by
  have hB1 := hS.body.below ((Below.refl _ w).alloc (Nat.le_refl _) (.cells #[.int .i64 0, .int .i64 0, .int .i64 0, .string ⟨#[]⟩] 52))
  have HI := Lib.hid hin
  have HO := Lib.hid hout
  clear hin hout
  have hcell := hS.cell
  have hlt := hS.lt
  have hcap := hS.cap
  have c1 : (w.alloc (.cells #[.int .i64 0, .int .i64 0, .int .i64 0, .string ⟨#[]⟩] 52)).cell? ⟨p, 0, none⟩ = some (.slice (some ⟨b, 0, none⟩) n cap) := by
    rw [World.cell?_alloc_past _ _ _ hlt]; exact hcell
  have hsl := fun W => run_cut W b n cap i e hie (by omega)
  have hcv := fun c => run_string hB1 i e c (by omega) hen
  go_enter Tryz.func156, Tryz.ntmps156
  go_wp2_with fail
  go_loop [9, 10] (fun u v => ∃ j : Nat, i < j ∧ j ≤ e ∧ u = .int .i64 j ∧ v = .int .i64 j) (fun u _ => n - (intOf u).toNat)
  case atStart => exact ⟨i + 1, by omega, by omega, by go_num, by go_num⟩
  case round =>
    obtain ⟨j, hj1, hj2, rfl, rfl⟩ := hrel
    have HJ := Lib.hid (runeAt_any hB1 cap (j : Int) (by omega))
    rw [Int.toNat_natCast] at HJ
    obtain ⟨c, hc⟩ : ∃ c, ch l j = c := ⟨_, rfl⟩
    have hb := ch_all hS.body.ascii j
    by_cases hje : j < e
    · have hij := HI.out j hj1 hje
      rw [hc] at HJ hij hb
      clear hc
      unfold NameChar at hij
      have hjn : j < n := by omega
      have b0 : ((j : Int) != (n : Int)) = true := by rw [bne_iff_ne]; omega
      rcases hij with rfl | hij | hij | hij
      · go_wp2_with (go_at_call 155; refine HJ.out.mono ?_; rintro e w' ⟨rfl, rfl⟩)
        go_round
        case rel => exact ⟨j + 1, by omega, by omega, by go_num, by go_num⟩
        case measure => simp [intOf]; omega
      all_goals
        have d1 : (c == 95) = false := by simp; omega
        go_wp2_with (go_at_call 155; refine HJ.out.mono ?_; rintro e w' ⟨rfl, rfl⟩)
        go_round
        case rel => exact ⟨j + 1, by omega, by omega, by go_num, by go_num⟩
        case measure => simp [intOf]; omega
    · obtain rfl : j = e := by omega
      have hout := HO.out
      by_cases hjn : j < n
      · have b0 : ((j : Int) != (n : Int)) = true := by rw [bne_iff_ne]; omega
        rw [hc] at HJ hout hb
        clear hc
        unfold NameChar at hout
        have d1 : (c == 95) = false := by simp; omega
        have hx : c < 48 ∨ (57 < c ∧ c < 65) ∨ (90 < c ∧ c < 97) ∨ 122 < c := by omega
        clear hout
        rcases hx with hx | hx | hx | hx
        all_goals
          go_wp2_with (go_at_call 155; refine HJ.out.mono ?_; rintro e w' ⟨rfl, rfl⟩)
          (go_at_call 154; refine (makeToken_any _ _ _ _ _).mono ?_; rintro e w' ⟨rfl, rfl⟩)
          go_wp2_with fail
          go_returns
          exact ⟨rfl, by go_grown⟩
      · obtain rfl : j = n := by omega
        clear hout
        go_wp2_with (go_at_call 155; refine HJ.out.mono ?_; rintro e w' ⟨rfl, rfl⟩)
        (go_at_call 154; refine (makeToken_any _ _ _ _ _).mono ?_; rintro e w' ⟨rfl, rfl⟩)
        go_wp2_with fail
        go_returns
        exact ⟨rfl, by go_grown⟩

end Go.Proofs.YtannihddhebcpaaGreatDoor
