/- SIGNS: the walk of FnSigns: true at every input. -/
import Derived.Test.YthmdgegaejanaaaGreatDoorLawSigns
import Derived.Test.YthmdgegaejanaaaGreatDoorEscapes
namespace Go.Proofs.YthmdgegaejanaaaGreatDoor
open Go.RowKit

set_option maxHeartbeats 1600000 in
set_option maxRecDepth 100000 in
theorem speclex_ok (s : ByteArray) (Q : Value → World → Prop) (h : ∀ w, Calls Tryz.prog 21 #[.string s] w fun y w' => (∃ o, y = .returned (.tuple #[o, .bool true, .bool true]) ∧ Q o w') ∧ Below w.heap.size w w') (w : World) :
    Calls Tryz.prog 17 #[.string s] w fun y w' => (∃ o, y = .returned (.tuple #[o, .bool true, .bool true]) ∧ Q o w') ∧ Below w.heap.size w w' := by
  have H := Lib.hid h
  clear h
  go_enter Tryz.func17, Tryz.ntmps17
  go_wp2_with fail
  refine (H.out _).mono ?_
  rintro x w' ⟨⟨o, rfl, hq⟩, hb⟩
  go_wp2_with fail
  go_ret3
  exact ⟨⟨o, rfl, hq⟩, hb⟩

set_option maxHeartbeats 1600000 in
set_option maxRecDepth 100000 in
theorem speclex_no (s : ByteArray) (h : ∀ w, Calls Tryz.prog 21 #[.string s] w fun y w' => y = .returned (.tuple #[.slice none 0 0, .bool false, .bool true]) ∧ Below w.heap.size w w') (w : World) :
    Calls Tryz.prog 17 #[.string s] w fun y w' => y = .returned (.tuple #[.slice none 0 0, .bool false, .bool true]) ∧ Below w.heap.size w w' := by
  have H := Lib.hid h
  clear h
  go_enter Tryz.func17, Tryz.ntmps17
  go_wp2_with fail
  refine (H.out _).mono ?_
  rintro x w' ⟨rfl, hb⟩
  go_wp2_with fail
  go_ret3
  exact ⟨rfl, hb⟩

theorem letter_lexed : Lexed [97] 0 [⟨15, 0, 1, ⟨#[97]⟩⟩] := by
  have e0 : ch [97] 0 = 97 := by decide
  have e1 : ch [97] 1 = -1 := by decide
  refine .tok 0 _ _ ?_ rfl (.eof _ _ _ (tokAt_end 1 (by decide) (.stop _ (by show ¬ White (ch [97] 1); rw [e1]; unfold White; omega) (by show ch [97] 1 ≠ 35; rw [e1]; omega))))
  exact tokAt_name (l := [97]) 0 0 1 (by decide) (skips_of e0 (by decide)) (by omega) (by decide) (fun j h1 h2 => by omega) (by rw [e1]; unfold NameChar; omega) (by rw [e0]; unfold NameStart; omega)
theorem letter_any (w : World) : Calls Tryz.prog 11 #[.string ⟨#[97]⟩] w fun x w' => (∃ A c, x = .returned (.tuple #[.slice A 1 c, .bool true])) ∧ Below w.heap.size w w' := by
  refine (tokens_ok ⟨#[97]⟩ _ (by intro c hc; revert c; decide) (by decide) letter_lexed (by decide) w).mono ?_
  rintro x w' ⟨A, c, rfl, _, hb⟩
  exact ⟨⟨A, c, rfl⟩, hb⟩

theorem below_row (w : World) (o : Obj) : Below w.heap.size w (w.alloc o) := (Below.refl _ w).alloc (Nat.le_refl _) o

set_option maxHeartbeats 3200000 in
set_option maxRecDepth 100000 in
theorem signs_refuse (c : Int) (x : UInt8) (hm : c % 128 = (x.toNat : Int)) (hc : 0 ≤ c ∧ c ≤ 255) (h : Refuse_ (oneT x)) (w : World) :
    Calls Tryz.prog 7 #[.int .u8 c] w fun y w' => y = .returned (.bool true) ∧ Below w.heap.size w w' := by
  have HL := Lib.hid (fun w => speclex_no _ h.want w)
  have HT := Lib.hid h.have_
  have hcv := one_string x w
  unfold oneT at HL HT
  clear h
  go_enter Tryz.func7, Tryz.ntmps7
  go_wp2_with fail
  refine (HL.out _).mono ?_
  rintro y w1 ⟨rfl, hb⟩
  have HB := Lib.hid ((below_row w (.cells #[.int .u8 (x.toNat : Int)] 5)).trans (hb.mono (below_row w _).size))
  clear hb
  go_wp2_with fail
  refine (HT.out _).mono ?_
  rintro y w2 ⟨rfl, hb⟩
  have HB2 := Lib.hid (HB.out.trans (hb.mono HB.out.size))
  clear hb HB
  go_wp2_with fail
  refine (letter_any _).mono ?_
  rintro y w3 ⟨⟨A, k, rfl⟩, hb⟩
  have HB3 := Lib.hid (HB2.out.trans (hb.mono HB2.out.size))
  clear hb HB2
  go_wp2_with fail
  go_quiet (fail)
  go_wp2_with fail
  go_ret
  exact ⟨rfl, below_drewN HB3.out _⟩

set_option maxHeartbeats 3200000 in
set_option maxRecDepth 100000 in
theorem signs_none (c : Int) (x : UInt8) (hm : c % 128 = (x.toNat : Int)) (hc : 0 ≤ c ∧ c ≤ 255) (h : None_ (oneT x)) (w : World) :
    Calls Tryz.prog 7 #[.int .u8 c] w fun y w' => y = .returned (.bool true) ∧ Below w.heap.size w w' := by
  have HL := Lib.hid (fun w => speclex_ok _ (fun o _ => o = .slice none 0 0) (fun w => (h.want w).mono fun y w' ⟨e, hb⟩ => ⟨⟨_, e, rfl⟩, hb⟩) w)
  have HT := Lib.hid h.have_
  have hcv := one_string x w
  unfold oneT at HL HT
  clear h
  go_enter Tryz.func7, Tryz.ntmps7
  go_wp2_with fail
  refine (HL.out _).mono ?_
  rintro y w1 ⟨⟨o, rfl, rfl⟩, hb⟩
  have HB := Lib.hid ((below_row w (.cells #[.int .u8 (x.toNat : Int)] 5)).trans (hb.mono (below_row w _).size))
  clear hb
  go_wp2_with fail
  refine (HT.out _).mono ?_
  rintro y w2 ⟨⟨A2, k2, rfl⟩, hb⟩
  have HB2 := Lib.hid (HB.out.trans (hb.mono HB.out.size))
  clear hb HB
  go_wp2_with fail
  refine (letter_any _).mono ?_
  rintro y w3 ⟨⟨A, k, rfl⟩, hb⟩
  have HB3 := Lib.hid (HB2.out.trans (hb.mono HB2.out.size))
  clear hb HB2
  go_wp2_with fail
  go_quiet (fail)
  go_wp2_with fail
  go_ret
  exact ⟨rfl, below_drewN HB3.out _⟩

set_option maxHeartbeats 3200000 in
set_option maxRecDepth 100000 in
theorem signs_single (c : Int) (x : UInt8) (hm : c % 128 = (x.toNat : Int)) (hc : 0 ≤ c ∧ c ≤ 255) (k : Int) (v : ByteArray) (h : Single_ (oneT x) k v) (w : World) :
    Calls Tryz.prog 7 #[.int .u8 c] w fun y w' => y = .returned (.bool true) ∧ Below w.heap.size w w' := by
  have HL := Lib.hid (fun w => speclex_ok _ (fun o w' => ∃ r cap, o = .slice (some ⟨r, 0, none⟩) 1 cap ∧ r < w'.heap.size ∧ w'.cell? ⟨r, 0, none⟩ = some (.int .i64 k) ∧ w'.cell? ⟨r, 1, none⟩ = some (.string v)) (fun w => (h.want w).mono fun y w' ⟨⟨r, cap, e, hr⟩, hb⟩ => ⟨⟨_, e, r, cap, rfl, hr⟩, hb⟩) w)
  have HT := Lib.hid h.have_
  have hcv := one_string x w
  unfold oneT at HL HT
  clear h
  go_enter Tryz.func7, Tryz.ntmps7
  go_wp2_with fail
  refine (HL.out _).mono ?_
  rintro y w1 ⟨⟨o, rfl, r, cap, rfl, hr, q0, q1⟩, hb⟩
  have HB := Lib.hid ((below_row w (.cells #[.int .u8 (x.toNat : Int)] 5)).trans (hb.mono (below_row w _).size))
  have HQ := Lib.hid (And.intro hr (And.intro q0 q1))
  clear hb hr q0 q1
  go_wp2_with fail
  refine (HT.out _).mono ?_
  rintro y w2 ⟨⟨r2, cap2, rfl, hr2, p0, p1⟩, hb⟩
  have HB2 := Lib.hid (HB.out.trans (hb.mono HB.out.size))
  have HP := Lib.hid (And.intro hr2 (And.intro p0 p1))
  have HQ2 := Lib.hid (And.intro (Nat.lt_of_lt_of_le HQ.out.1 hb.size) (And.intro ((hb.cell (p := ⟨r, 0, none⟩) HQ.out.1).trans HQ.out.2.1) ((hb.cell (p := ⟨r, 1, none⟩) HQ.out.1).trans HQ.out.2.2)))
  clear hb HB hr2 p0 p1 HQ
  go_wp2_with fail
  refine (letter_any _).mono ?_
  rintro y w3 ⟨⟨A, kk, rfl⟩, hb⟩
  have HB3 := Lib.hid (HB2.out.trans (hb.mono HB2.out.size))
  have q0 := (hb.cell (p := ⟨r, 0, none⟩) HQ2.out.1).trans HQ2.out.2.1
  have q1 := (hb.cell (p := ⟨r, 1, none⟩) HQ2.out.1).trans HQ2.out.2.2
  have p0 := (hb.cell (p := ⟨r2, 0, none⟩) HP.out.1).trans HP.out.2.1
  have p1 := (hb.cell (p := ⟨r2, 1, none⟩) HP.out.1).trans HP.out.2.2
  clear hb HB2 HQ2 HP
  go_wp2_with fail
  go_quiet (fail)
  go_wp2_with fail
  go_ret
  exact ⟨rfl, below_drewN HB3.out _⟩

/-- FnSigns: true, whatever the input. -/
theorem signs_any (c : Int) (hc : 0 ≤ c ∧ c ≤ 255) (w : World) :
    Calls Tryz.prog 7 #[.int .u8 c] w fun y w' => y = .returned (.bool true) ∧ Below w.heap.size w w' := by
  obtain ⟨x, hm⟩ : ∃ x : UInt8, c % 128 = (x.toNat : Int) := ⟨UInt8.ofNat (c % 128).toNat, by simp; omega⟩
  rcases one_any x (by omega) with h | h | ⟨k, v, h⟩
  · exact signs_none c x hm hc h w
  · exact signs_refuse c x hm hc h w
  · exact signs_single c x hm hc k v h w

end Go.Proofs.YthmdgegaejanaaaGreatDoor
