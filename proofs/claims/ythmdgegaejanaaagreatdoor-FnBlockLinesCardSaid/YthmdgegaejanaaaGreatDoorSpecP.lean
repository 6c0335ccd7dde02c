/- THE REFERENCE's LEXER: a block string alone: that it comes to an end. -/
import Derived.Test.YthmdgegaejanaaaGreatDoorSpecG
import Derived.Test.YthmdgegaejanaaaGreatDoorSpecJ
namespace Go.Proofs.YthmdgegaejanaaaGreatDoor
open Go.RowKit

def BlockCh (c : Int) : Prop := c = 10 ∨ (32 ≤ c ∧ c ≤ 126 ∧ c ≠ 34 ∧ c ≠ 92)

set_option maxHeartbeats 1600000 in
set_option maxRecDepth 100000 in
theorem source_block (c : Int) (h : BlockCh c) (w : World) :
    Calls Tryz.prog 53 #[.int .i64 c] w fun x w' => x = .returned (.tuple #[.bool true, .bool true]) ∧ w = w' := by
  unfold BlockCh at h
  rcases h with rfl | h
  · go_enter Tryz.func53, Tryz.ntmps53
    go_wp2_with fail
    go_ret2
    exact ⟨rfl, rfl⟩
  · exact source_ascii c (by omega) (by omega) w

set_option maxHeartbeats 1600000 in
set_option maxRecDepth 100000 in
/-- Another text of four bytes stands there. -/
theorem starts_no4 (s t : ByteArray) (i : Nat) (w : World) (hn : s.size ≤ 4611686018427387904) (hi : i < s.size) (ht : t.size = 4) (hne : ch s.data.toList i ≠ ch t.data.toList 0) :
    Calls Tryz.prog 33 #[.string s, .int .i64 (i : Int), .string t] w fun x w' => x = .returned (.bool false) ∧ w = w' := by
  by_cases h : i + 4 ≤ s.size
  · have hx : ¬ (s.extract i (i + 4)).toList = t.toList := by
      rw [Lib.toList_data, Lib.toList_data, Lib.extract_data]
      intro e
      apply hne
      rw [← e, ch_get (by rw [len_data]; omega), ch_get (by rw [List.length_take, List.length_drop, len_data]; omega)]
      simp
    have hx2 : ((s.extract i (i + 4)).toList == t.toList) = false := by simpa using hx
    go_enter Tryz.func33, Tryz.ntmps33
    go_wp2
    go_ret
    exact ⟨rfl, rfl⟩
  · go_enter Tryz.func33, Tryz.ntmps33
    go_wp2
    go_ret
    exact ⟨rfl, rfl⟩

theorem list3 {l : List UInt8} (h : l.length = 3) (a b c : UInt8) (h0 : ch l 0 = (a.toNat : Int)) (h1 : ch l 1 = (b.toNat : Int)) (h2 : ch l 2 = (c.toNat : Int)) : l = [a, b, c] := by
  match l, h with
  | [x, y, z], _ =>
    have e0 : ch [x, y, z] 0 = (x.toNat : Int) := rfl
    have e1 : ch [x, y, z] 1 = (y.toNat : Int) := rfl
    have e2 : ch [x, y, z] 2 = (z.toNat : Int) := rfl
    rw [e0] at h0
    rw [e1] at h1
    rw [e2] at h2
    rw [UInt8.toNat_inj.1 (by omega : x.toNat = a.toNat), UInt8.toNat_inj.1 (by omega : y.toNat = b.toNat), UInt8.toNat_inj.1 (by omega : z.toNat = c.toNat)]

set_option maxHeartbeats 1600000 in
set_option maxRecDepth 100000 in
/-- Three quotation marks stand there. -/
theorem starts_quotes (s : ByteArray) (i : Nat) (w : World) (hn : s.size ≤ 4611686018427387904) (hi : i + 3 ≤ s.size) (h0 : ch s.data.toList i = 34) (h1 : ch s.data.toList (i + 1) = 34) (h2 : ch s.data.toList (i + 2) = 34) :
    Calls Tryz.prog 33 #[.string s, .int .i64 (i : Int), .string ⟨#[34, 34, 34]⟩] w fun x w' => x = .returned (.bool true) ∧ w = w' := by
  have hx : (s.extract i (i + 3)).toList = [34, 34, 34] := by
    rw [Lib.toList_data, Lib.extract_data]
    have hl : ((s.data.toList.drop i).take (i + 3 - i)).length = 3 := by rw [List.length_take, List.length_drop, len_data]; omega
    have hk : ∀ k, k < 3 → ch ((s.data.toList.drop i).take (i + 3 - i)) k = ch s.data.toList (i + k) := fun k hk => by
      rw [ch_get (by omega), ch_get (by rw [len_data]; omega)]
      simp
    exact list3 hl 34 34 34 (by rw [hk 0 (by omega)]; exact h0) (by rw [hk 1 (by omega)]; exact h1) (by rw [hk 2 (by omega)]; exact h2)
  have hx2 : ((s.extract i (i + 3)).toList == [34, 34, 34]) = true := by rw [hx]; rfl
  clear hx h0 h1 h2
  go_enter Tryz.func33, Tryz.ntmps33
  go_wp2
  go_ret
  exact ⟨rfl, rfl⟩

/-- What is left behind the one token: some row, some 'unsure'. -/
def Done (w w' : World) (g : Nat) (s : ByteArray) : Prop := ∃ out unsure, Lx w' g s (s.size : Int) out false unsure ∧ w.grownBy w' (some g)

theorem take_one (s : ByteArray) (f i : Nat) (hf : f ≤ i) : s.extract f i ++ s.extract i (i + 1) = s.extract f (i + 1) := by
  rw [ByteArray.extract_append_extract]
  congr 1 <;> omega

theorem only_more {a b c : World} {row : Option Nat} (h : a.grownBy b row) (k : b.grownBy c row) : a.grownBy c row :=
  ⟨k.os.trans h.os, k.tape.trans h.tape, k.output.trans h.output, Nat.le_trans h.size k.size, fun i hi hne => (k.block i (Nat.lt_of_lt_of_le hi h.size) hne).trans (h.block i hi hne)⟩
theorem only_then {a b c : World} {row : Option Nat} (h : a.grownBy b row) (k : Below b.heap.size b c) : a.grownBy c row := only_more h (only_of_below k row)
theorem Lx.same4 {w : World} {g : Nat} {s : ByteArray} {i : Int} {out : Value} {bad unsure : Bool} (h : Lx w g s i out bad unsure) (u : Bool) : Lx (w.setCell ⟨g, 4, none⟩ (.bool u)) g s i out bad u := by
  have := Blk.set_ h 4 (.bool u)
  simpa [Lx] using this

set_option maxHeartbeats 6400000 in
set_option maxRecDepth 100000 in
theorem refBlock_any {w : World} {g : Nat} {s : ByteArray} (hx : Lx w g s ((0 : Nat) : Int) (.slice none 0 0) false false) (hn : s.size ≤ 4611686018427387904) (e : Nat) (h3 : 3 ≤ e) (hlen : s.size = e + 3) (hin : ∀ j, 3 ≤ j → j < e → BlockCh (ch s.data.toList j)) (q0 : ch s.data.toList e = 34) (q1 : ch s.data.toList (e + 1) = 34) (q2 : ch s.data.toList (e + 2) = 34)
    (hP : ∀ w, Calls Tryz.prog 55 #[.string (s.extract 3 e)] w fun x w' => (∃ b, x = .returned (.bool b)) ∧ Below w.heap.size w w')
    (hV : ∀ w, Calls Tryz.prog 56 #[.string (s.extract 3 e)] w fun x w' => (∃ v, x = .returned (.string v)) ∧ Below w.heap.size w w') :
    Calls Tryz.prog 41 #[.pointer (some ⟨g, 0, none⟩)] w fun x w' => x = .returned (.tuple #[]) ∧ Done w w' g s := by
  have hs1 : e + 3 ≤ s.size := by omega
  have hs2 : s.size ≤ e + 3 := by omega
  clear hlen
  have HI := Lib.hid hin
  have HP := Lib.hid hP
  have HV := Lib.hid hV
  have HX := Lib.hid hx
  have HQ := Lib.hid (And.intro q0 (And.intro q1 q2))
  have HA := Lib.hid (fun W u (hW : Lx W g s ((0 : Nat) : Int) (.slice none 0 0) false u) v => add_first hW 19 (s.size : Int) v)
  obtain ⟨c0, c1, c2, c3, c4⟩ := hx.cells
  have hz : (s.extract 3 3) = ⟨#[]⟩ := by
    apply ByteArray.ext
    apply Array.toList_inj.1
    rw [Lib.extract_data]
    simp
  clear hin hP hV hx q0 q1 q2
  go_enter Tryz.func41, Tryz.ntmps41
  go_wp2_with fail
  clear c0 c1 c2 c3 c4
  go_loopg [2, 3] (e + 1 - 3) (fun m u v wr => ∃ (j : Nat) (r : ByteArray), u = .string r ∧ v = .int .i64 (j : Int) ∧ m = e + 1 - j ∧ 3 ≤ j ∧ j ≤ e ∧ Hid (r = s.extract 3 j) ∧ Hid (Lx wr g s ((0 : Nat) : Int) (.slice none 0 0) false false) ∧ Hid (w.grownBy wr (some g)))
  case atStart => exact ⟨3, _, rfl, rfl, rfl, by omega, by omega, hz.symm, HX, World.grownBy.refl w _⟩
  case round =>
    clear HX hz
    obtain ⟨j, r, rfl, rfl, rfl, hj1, hj2, HR, HX, HG⟩ := hrel
    obtain ⟨c0, c1, c2, c3, c4⟩ := HX.out.cells
    have f1 := Blk.frozen HX.out 1
    have f4 := Blk.frozen HX.out 4
    have hb := ch_byte s j (by omega)
    by_cases hje : j < e
    · have hc := HI.out j hj1 hje
      have hc2 := hc
      unfold BlockCh at hc2
      have HF := Lib.hid (fun w => starts_no s ⟨#[34, 34, 34]⟩ j w hn (by omega) (by rfl) (by rw [show ch (⟨#[34, 34, 34]⟩ : ByteArray).data.toList 0 = 34 by decide]; omega))
      have HD := Lib.hid (fun w => starts_no4 s ⟨#[92, 34, 34, 34]⟩ j w hn (by omega) (by rfl) (by rw [show ch (⟨#[92, 34, 34, 34]⟩ : ByteArray).data.toList 0 = 92 by decide]; omega))
      have HPt := Lib.hid (fun w => point_ascii s j (by omega) (by omega) w)
      rw [hb] at hc
      have HS := Lib.hid (fun w => source_block _ hc w)
      have HT := Lib.hid (take_one s 3 j hj1)
      have hrs : r.size ≤ j := by rw [HR.out, ByteArray.size_extract]; omega
      clear hc hc2 hb
      go_wp2_with fail
      refine (HF.out _).mono ?_
      rintro x w' ⟨rfl, rfl⟩
      go_wp2_with fail
      refine (HD.out _).mono ?_
      rintro x w' ⟨rfl, rfl⟩
      go_wp2_with fail
      refine (HPt.out _).mono ?_
      rintro x w' ⟨rfl, rfl⟩
      go_wp2_with (go_at_call 53; refine (HS.out _).mono ?_; rintro x w' ⟨rfl, rfl⟩)
      have HX2 := Lib.hid (Lx.same4 HX.out false)
      go_roundg (e + 1 - (j + 1))
      case measure => omega
      case rel => exact ⟨j + 1, _, rfl, by go_num, rfl, by omega, by omega, by show _ = _; rw [HR.out]; exact HT.out, HX2, only_setCell (p := ⟨g, 4, none⟩) HG.out (.inl rfl) _⟩
    · have hd := HQ.out
      obtain rfl : j = e := by omega
      have HF := Lib.hid (fun w => starts_quotes s j w hn (by omega) hd.1 hd.2.1 hd.2.2)
      have hr := HR.out
      subst hr
      clear hd hb HR HI HQ
      go_wp2_with fail
      refine (HF.out _).mono ?_
      rintro x w' ⟨rfl, rfl⟩
      go_wp2_with fail
      refine (HP.out _).mono ?_
      rintro x W1 ⟨⟨b, rfl⟩, hb1⟩
      have HX1 := Lib.hid (Blk.below HX.out hb1 (Blk.lt HX.out))
      have HG1 := Lib.hid (only_then HG.out hb1)
      clear hb1 c0 c1 c2 c3 c4 f1 f4 HX HG
      obtain ⟨c0, c1, c2, c3, c4⟩ := Lx.cells HX1.out
      have f4 := Blk.frozen HX1.out 4
      go_wp2_with fail
      have HX2 := Lib.hid (Lx.same4 HX1.out (!b))
      have HG2 := Lib.hid (only_setCell (p := ⟨g, 4, none⟩) HG1.out (.inl rfl) (.bool (!b)))

      refine (HV.out _).mono ?_
      rintro x W2 ⟨⟨v, rfl⟩, hb2⟩
      have HX3 := Lib.hid (Blk.below HX2.out hb2 (Blk.lt HX2.out))
      have HG3 := Lib.hid (only_then HG2.out hb2)
      clear hb2 c0 c1 c2 c3 c4 f4
      have hj3 : (j : Int) + 3 = (s.size : Int) := by omega
      have HA2 := HA.out _ _ HX3.out v
      rw [← hj3] at HA2
      have HJ := Lib.hid hj3
      have HAA := Lib.hid HA2
      clear hj3 HA2 HA
      go_wp2_with fail
      refine HAA.out.mono ?_
      rintro x W3 ⟨rfl, ⟨r, cap, hl, _⟩, hg⟩
      rw [HJ.out] at hl
      have HL := Lib.hid hl
      have HG4 := Lib.hid (only_more HG3.out hg)
      clear hl hg
      go_wp2_with fail
      go_returns
      exact ⟨rfl, _, _, HL.out, HG4.out⟩

end Go.Proofs.YthmdgegaejanaaaGreatDoor
