/- THE PARSER: parseName, parseNamed. -/
import Derived.Test.YtannihddhebcpaaGreatDoorPsE
namespace Go.Proofs.YtannihddhebcpaaGreatDoor
open Go.RowKit

theorem below_then {q g : Nat} {a w c : World} (h : Keep q g a w) (k : Below w.heap.size w c) : Keep q g a c := h.trans (.of_below k)

/-- A name that was read: its block. -/
structure NameAt (w : World) (B m : Nat) (v : ByteArray) : Prop where
  lo : B ≤ m
  blk : ∃ c1, Blk w m 82 #[.string ⟨#[78, 97, 109, 101]⟩, c1, .string v]

set_option maxHeartbeats 3200000 in
set_option maxRecDepth 100000 in
theorem parseName_any {W : World} {q g h p b n cap : Nat} {l : List UInt8} {i prev : Nat} {s e : Nat} {v : ByteArray} (H : Ps W q g h p b n cap l i prev 15 s e v) (hn : n ≤ 4611686018427387904) (he : 0 < e) {k2 : Int} {s2 e2 : Nat} {v2 : ByteArray} (hT : TokAt l e k2 s2 e2 v2) :
    Calls Tryz.prog 83 #[.pointer (some ⟨q, 0, none⟩)] W fun x w' => ∃ m, x = .returned (.tuple #[.pointer (some ⟨m, 0, none⟩), .nilIface]) ∧ NameAt w' W.heap.size m v ∧ Ps w' q g h p b n cap l e2 e k2 s2 e2 v2 ∧ Keep q g W w' := by
  have hlt := Blk.lt H.blk
  have hgq := H.gq
  have HE := Lib.hid (expect_any H hn he hT)
  clear H hT
  go_enter Tryz.func83, Tryz.ntmps83
  go_wp2_with fail
  refine HE.out.mono ?_
  rintro x W1 ⟨rfl, hp, hk⟩
  have HP := Lib.hid hp
  have HK := Lib.hid hk
  have hs1 := hk.size
  clear hp hk HE
  have HL := Lib.hid (fun o => loc_any ((HP.out.below ((Below.refl _ W1).alloc (Nat.le_refl _) o)).below (w' := (W1.alloc o).drew) (Below.refl _ _).drew) (s : Int))
  have HX := Lib.hid (fun (c0 c1 c2 c3 : Value) (w' : World) (hb : Below ((W1.alloc (.cells #[c0, c1, c2, c3] 52)).drew).heap.size ((W1.alloc (.cells #[c0, c1, c2, c3] 52)).drew) w') => show Blk w' W1.heap.size 52 #[c0, c1, c2, c3] from (hb.block W1.heap.size (by show _ < (World.alloc _ _).heap.size; simp)).trans (Blk.new W1 52 _))
  have HZ := Lib.hid (fun (o : Obj) (w' : World) (hb : Below ((W1.alloc o).drew).heap.size ((W1.alloc o).drew) w') => show Below W1.heap.size W1 w' from (((Below.refl _ W1).alloc (Nat.le_refl _) o).drew).trans (hb.mono (by show _ ≤ (World.alloc _ _).heap.size; simp)))
  go_wp2_with fail
  go_region_with (first
    | (go_at_call 78; refine (HL.out _).mono ?_; rintro x w' ⟨m, rfl, hm⟩; obtain ⟨b0, b1, b2, b3, bf⟩ := blk4 (HX.out _ _ _ _ _ hm.below); have HB := Lib.hid (HZ.out _ _ hm.below); clear hm)
    | (go_at_call 139; refine (newName_any (Blk.new _ 82 _)).mono ?_; rintro x w2 ⟨rfl, rfl⟩))
  all_goals
    go_wp2_with fail
    go_ret2
    have hz := HB.out.size
    have hb := HB.out.alloc hz (.cells #[.string ⟨#[78, 97, 109, 101]⟩, .pointer (some ⟨m, 0, none⟩), .string v] 82)
    exact ⟨_, rfl, ⟨Nat.le_trans hs1 hz, _, Blk.new _ 82 _⟩, HP.out.below hb, below_then HK.out hb⟩

/-- A named type that was read: its block, where it stands, its name. -/
structure NamedAt (w : World) (B p m s e : Nat) (v : ByteArray) : Prop where
  lo : B ≤ m
  blk : ∃ c d, B ≤ c ∧ B ≤ d ∧ Blk w m 80 #[.string ⟨#[78, 97, 109, 101, 100]⟩, .pointer (some ⟨c, 0, none⟩), .pointer (some ⟨d, 0, none⟩)] ∧ Blk w c 144 #[.int .i64 (s : Int), .int .i64 (e : Int), .pointer (some ⟨p, 0, none⟩)] ∧ ∃ c1, Blk w d 82 #[.string ⟨#[78, 97, 109, 101]⟩, c1, .string v]

set_option maxHeartbeats 3200000 in
set_option maxRecDepth 100000 in
theorem parseNamed_any {W : World} {q g h p b n cap : Nat} {l : List UInt8} {i prev : Nat} {s e : Nat} {v : ByteArray} (H : Ps W q g h p b n cap l i prev 15 s e v) (hn : n ≤ 4611686018427387904) (he : 0 < e) {k2 : Int} {s2 e2 : Nat} {v2 : ByteArray} (hT : TokAt l e k2 s2 e2 v2) :
    Calls Tryz.prog 81 #[.pointer (some ⟨q, 0, none⟩)] W fun x w' => ∃ m, x = .returned (.tuple #[.pointer (some ⟨m, 0, none⟩), .nilIface]) ∧ NamedAt w' W.heap.size p m s e v ∧ Ps w' q g h p b n cap l e2 e k2 s2 e2 v2 ∧ Keep q g W w' := by
  obtain ⟨c0, c1, c2, c3, c4, c5, c6, c7, c8⟩ := H.cells
  have HE := Lib.hid (parseName_any H hn he hT)
  clear H hT
  go_enter Tryz.func81, Tryz.ntmps81
  go_wp2_with fail
  refine HE.out.mono ?_
  rintro x W1 ⟨d, rfl, hnm, hp, hk⟩
  have HP := Lib.hid hp
  have HK := Lib.hid hk
  have HNM := Lib.hid hnm
  have hs1 := hk.size
  clear hp hk HE hnm
  go_wp2_with fail
  refine (loc_any HP.out _).mono ?_
  rintro x W2 ⟨c, rfl, hm⟩
  have HM := Lib.hid hm
  clear hm
  go_wp2_with fail
  refine (newNamed_any (Blk.new _ 80 _)).mono ?_
  rintro x w2 ⟨rfl, rfl⟩
  go_wp2_with fail
  go_ret2
  have hz := HM.out.below.size
  have hb := HM.out.below.alloc hz (.cells #[.string ⟨#[78, 97, 109, 101, 100]⟩, .pointer (some ⟨c, 0, none⟩), .pointer (some ⟨d, 0, none⟩)] 80)
  have hb2 := (Below.refl W2.heap.size W2).alloc (Nat.le_refl _) (.cells #[.string ⟨#[78, 97, 109, 101, 100]⟩, .pointer (some ⟨c, 0, none⟩), .pointer (some ⟨d, 0, none⟩)] 80)
  obtain ⟨c1', hd⟩ := HNM.out.blk
  exact ⟨_, rfl, ⟨Nat.le_trans hs1 hz, c, d, Nat.le_trans hs1 HM.out.lo, HNM.out.lo, Blk.new _ 80 _, Blk.below HM.out.blk hb2 (Blk.lt HM.out.blk), c1', Blk.below hd hb (Blk.lt hd)⟩, HP.out.below hb, below_then HK.out hb⟩

end Go.Proofs.YtannihddhebcpaaGreatDoor
