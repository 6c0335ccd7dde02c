/- THE PARSER: parseUnionMembers. -/
import Derived.Test.YtannihddhebcpaaGreatDoorPsF
import Derived.Deep.LoopGhost
import Derived.Lib.SmallJoins
import Derived.Laws.AppendOwn
import Derived.Laws.OwnMore
import Derived.Lib.Buffer
namespace Go.Proofs.YtannihddhebcpaaGreatDoor
open Go.RowKit

/-- A name in the text: where it begins, where it ends, its text. -/
abbrev Nm := Nat × Nat × ByteArray
/-- Behind a name that ends at e: a line and a name, again and again; then a closing brace at z. -/
inductive Mems (l : List UInt8) (z : Nat) : Nat → List Nm → Prop
  | last (e e2 : Nat) (h : TokAt l e 14 z e2 ⟨#[]⟩) : Mems l z e []
  | more (e sp ep s2 e2 : Nat) (v2 : ByteArray) (r : List Nm) (hp : TokAt l e 13 sp ep ⟨#[]⟩) (hep : 0 < ep) (hn : TokAt l ep 15 s2 e2 v2) (he2 : 0 < e2) (k : Mems l z e2 r) : Mems l z e ((s2, e2, v2) :: r)

def NamedAll (w : World) (B p : Nat) (ms : List Nat) (ts : List Nm) : Prop := ms.length = ts.length ∧ ∀ (j m : Nat) (t : Nm), ms[j]? = some m → ts[j]? = some t → NamedAt w B p m t.1 t.2.1 t.2.2
def ptrs (ms : List Nat) : List Value := ms.map fun m => .pointer (some ⟨m, 0, none⟩)

theorem NamedAt.mono {w w' : World} {B p m s e : Nat} {v : ByteArray} (h : NamedAt w B p m s e v) (H : ∀ (j : Nat) (t : TypeId) (cs : Array Value), B ≤ j → t ≠ 74 → t ≠ 20 → Blk w j t cs → Blk w' j t cs) : NamedAt w' B p m s e v := by
  obtain ⟨c, d, hc, hd, b1, b2, c1, b3⟩ := h.blk
  exact ⟨h.lo, c, d, hc, hd, H _ _ _ h.lo (by decide) (by decide) b1, H _ _ _ hc (by decide) (by decide) b2, c1, H _ _ _ hd (by decide) (by decide) b3⟩
theorem NamedAt.base {w : World} {B B' p m s e : Nat} {v : ByteArray} (h : NamedAt w B p m s e v) (hB : B' ≤ B) : NamedAt w B' p m s e v := by
  obtain ⟨c, d, hc, hd, b1, b2, b3⟩ := h.blk
  exact ⟨Nat.le_trans hB h.lo, c, d, Nat.le_trans hB hc, Nat.le_trans hB hd, b1, b2, b3⟩
theorem NamedAll.mono {w w' : World} {B p : Nat} {ms : List Nat} {ts : List Nm} (h : NamedAll w B p ms ts) (H : ∀ (j : Nat) (t : TypeId) (cs : Array Value), B ≤ j → t ≠ 74 → t ≠ 20 → Blk w j t cs → Blk w' j t cs) : NamedAll w' B p ms ts :=
  ⟨h.1, fun j m t hm ht => (h.2 j m t hm ht).mono H⟩
theorem NamedAll.nil (w : World) (B p : Nat) : NamedAll w B p [] [] := ⟨rfl, fun j m t hm => by simp at hm⟩
theorem NamedAll.snoc {w : World} {B p m : Nat} {ms : List Nat} {ts : List Nm} {t : Nm} (h : NamedAll w B p ms ts) (k : NamedAt w B p m t.1 t.2.1 t.2.2) : NamedAll w B p (ms ++ [m]) (ts ++ [t]) := by
  refine ⟨by simp [h.1], fun j m' t' hm ht => ?_⟩
  have hl := h.1
  by_cases hj : j < ms.length
  · rw [List.getElem?_append_left hj] at hm
    rw [List.getElem?_append_left (by omega)] at ht
    exact h.2 j m' t' hm ht
  · have hj2 : j = ms.length := by
      have := (List.getElem?_eq_some_iff.1 hm).1
      simp at this
      omega
    subst hj2
    rw [List.getElem?_append_right (Nat.le_refl _), Nat.sub_self] at hm
    rw [hl, List.getElem?_append_right (Nat.le_refl _), Nat.sub_self] at ht
    simp at hm ht
    subst hm ht
    exact k

theorem keep_blk {q g B : Nat} {w w' : World} (h : Keep q g w w') (hq : q < B) (hg : g < B) : ∀ (j : Nat) (t : TypeId) (cs : Array Value), B ≤ j → t ≠ 74 → t ≠ 20 → Blk w j t cs → Blk w' j t cs :=
  fun j _ _ hj _ _ hb => (h.block j (Blk.lt hb) (by omega) (by omega)).trans hb
theorem below_blk {B : Nat} {w w' : World} (h : Below w.heap.size w w') : ∀ (j : Nat) (t : TypeId) (cs : Array Value), B ≤ j → t ≠ 74 → t ≠ 20 → Blk w j t cs → Blk w' j t cs :=
  fun _ _ _ _ _ _ hb => Blk.below hb h (Blk.lt hb)
theorem grown_blk {B base size n : Nat} {e : TypeId} {w w' : World} {v : Value} {xs : List Value} (hown : w.ownsRow base e size v n xs) (he : e = 74 ∨ e = 20) (h : w.grownBy w' v.ownBlock) : ∀ (j : Nat) (t : TypeId) (cs : Array Value), B ≤ j → t ≠ 74 → t ≠ 20 → Blk w j t cs → Blk w' j t cs :=
  fun _ _ _ _ h1 h2 hb => Blk.grown hb h (Ne.symm (own_blk_ne hown hb (by rcases he with rfl | rfl <;> (intro e; first | exact h1 e.symm | exact h2 e.symm))))
theorem keep_grown {q g base size n : Nat} {e : TypeId} {a w w' : World} {v : Value} {xs : List Value} (hk : Keep q g a w) (hown : w.ownsRow base e size v n xs) (hb : a.heap.size ≤ base) (h : w.grownBy w' v.ownBlock) : Keep q g a w' :=
  ⟨h.os.trans hk.os, h.tape.trans hk.tape, h.output.trans hk.output, Nat.le_trans hk.size h.size, fun i hi h1 h2 => (h.block i (Nat.lt_of_lt_of_le hi hk.size) (fun e => by have := (hown.lt i e.symm).1; omega)).trans (hk.block i hi h1 h2)⟩
theorem own_keep {q g base size n : Nat} {e : TypeId} {w w' : World} {v : Value} {xs : List Value} (hown : w.ownsRow base e size v n xs) (h : Keep q g w w') (hq : q < base) (hg : g < base) : w'.ownsRow base e size v n xs := by
  rcases h' : v.ownBlock with _ | k
  · obtain ⟨h1, h2 | ⟨gg, cap, cur, hv, _⟩⟩ := hown
    · exact ⟨h1, .inl h2⟩
    · rw [hv] at h'; simp [Value.ownBlock] at h'
  · obtain ⟨hlo, hlt⟩ := hown.lt k h'
    obtain ⟨h1, h2 | ⟨gg, cap, cur, hv, hl, hh, hr⟩⟩ := hown
    · exact ⟨h1, .inl h2⟩
    · refine ⟨h1, .inr ⟨gg, cap, cur, hv, hl, ?_, hr⟩⟩
      rw [hv] at h'
      simp [Value.ownBlock] at h'
      subst h'
      exact (h.block gg hlt (by omega) (by omega)).trans hh

theorem Ps.grown {w w' : World} {q g h p b n cap : Nat} {l : List UInt8} {i prev : Nat} {k : Int} {s e : Nat} {v : ByteArray} (H : Ps w q g h p b n cap l i prev k s e v) {base size m : Nat} {t : TypeId} {u : Value} {xs : List Value} (hown : w.ownsRow base t size u m xs) (hq : q < base) (hg : w.grownBy w' u.ownBlock) : Ps w' q g h p b n cap l i prev k s e v :=
  H.heap hg.size (fun j hj => hg.block j (Nat.lt_of_le_of_lt hj (Blk.lt H.blk)) (fun e => by have := (hown.lt j e.symm).1; omega))

theorem info74 : (Tryz.prog.info? 74).map (fun i => (i.zero, i.size, i.bytes)) = some (some (.pointer none), 1, 8) := by kernel_rfl
theorem one_cell (W : World) (v : Value) (o : TypeId) : ∀ j u, [v][j]? = some u → (W.alloc (.cells #[v] o)).cell? ((⟨W.heap.size, 0, none⟩ : Addr).add j) = some u := by
  intro j u hj
  rw [Lib.addr_add, Nat.zero_add, World.cell?_alloc_at _ _ _ _ rfl]
  simpa using hj

/-- The parser stands at a closing brace at z. -/
def AtBrace (W : World) (q g h p b n cap : Nat) (l : List UInt8) (z : Nat) : Prop := ∃ i prev e v, Ps W q g h p b n cap l i prev 14 z e v

set_option maxHeartbeats 6400000 in
set_option maxRecDepth 100000 in
theorem members_any {W : World} {q g h p b n cap : Nat} {l : List UInt8} {i prev : Nat} {s e : Nat} {v : ByteArray} (H : Ps W q g h p b n cap l i prev 15 s e v) (hn : n ≤ 4611686018427387904) (he : 0 < e) {z : Nat} {r : List Nm} (hM : Mems l z e r) (hr : r.length ≤ 1000) :
    Calls Tryz.prog 42 #[.pointer (some ⟨q, 0, none⟩)] W fun x w' => ∃ A c ms, x = .returned (.tuple #[.slice A (r.length + 1) c, .nilIface]) ∧ w'.ownsRow W.heap.size 74 1 (.slice A (r.length + 1) c) (r.length + 1) (ptrs ms) ∧ NamedAll w' W.heap.size p ms ((s, e, v) :: r) ∧ AtBrace w' q g h p b n cap l z ∧ Keep q g W w' := by
  obtain ⟨i0, hi0, hz0, hz1, hz2⟩ := info_parts info74
  have hlt := Blk.lt H.blk
  have hgq := H.gq
  have HP := Lib.hid H
  have HM := Lib.hid hM
  clear H hM
  go_enter Tryz.func42, Tryz.ntmps42
  go_wp2_with fail
  have HO : Hid ((W.alloc (.cells #[] 74)).ownsRow W.heap.size 74 1 (.slice (some ⟨W.heap.size, 0, none⟩) 0 0) 0 (ptrs [])) := ⟨rfl, .inr ⟨W.heap.size, 0, #[], rfl, Nat.le_refl _, heap_alloc_new W _, Nat.le_refl _, Nat.zero_le _, rfl, rfl⟩⟩
  have HK := Lib.hid ((Keep.refl q g W).alloc (.cells #[] 74))
  have HP1 := Lib.hid (HP.out.below ((Below.refl W.heap.size W).alloc (Nat.le_refl _) (.cells #[] 74)))
  have HN := Lib.hid (NamedAll.nil (W.alloc (.cells #[] 74)) W.heap.size p)
  clear HP
  go_loopg [4] r.length (fun m u wr => ∃ (dn rest : List Nm) (ms : List Nat) (A : Option Addr) (c i2 prev2 s2 e2 : Nat) (v2 : ByteArray), u = .slice A dn.length c ∧ m = rest.length ∧ 0 < e2 ∧ Hid (dn ++ (s2, e2, v2) :: rest = (s, e, v) :: r) ∧ Hid (Mems l z e2 rest) ∧ Hid (wr.ownsRow W.heap.size 74 1 (.slice A dn.length c) dn.length (ptrs ms)) ∧ Hid (NamedAll wr W.heap.size p ms dn) ∧ Hid (Ps wr q g h p b n cap l i2 prev2 15 s2 e2 v2) ∧ Hid (Keep q g W wr))
  case atStart => exact ⟨[], r, [], _, 0, _, _, _, _, _, rfl, rfl, he, rfl, HM, HO, HN, HP1, HK⟩
  case round =>
    clear HO HK HP1 HN HM
    obtain ⟨dn, rest, ms, A, c, i2, prev2, s2, e2, v2, rfl, rfl, he2, HD, HX, HO, HN, HP, HK⟩ := hrel
    have hlen : dn.length + rest.length = r.length := by have := congrArg List.length HD.out; simp at this; omega
    have hx := HX.out
    clear HX
    cases hx with
    | last _ e3 hT =>
      have HPN := Lib.hid (parseNamed_any HP.out hn he2 hT)
      clear hT
      go_wp2_with fail
      refine HPN.out.mono ?_
      rintro x W1 ⟨m, rfl, hnm, hp, hk⟩
      have HP2 := Lib.hid (hp.below ((Below.refl W1.heap.size W1).alloc (Nat.le_refl _) (.cells #[.pointer (some ⟨m, 0, none⟩)] 74)))
      have HO2 := Lib.hid ((own_keep HO.out hk hlt (Nat.lt_trans hgq hlt)).alloc (.cells #[.pointer (some ⟨m, 0, none⟩)] 74))
      have HN2 := Lib.hid (((HN.out.mono (keep_blk hk hlt (Nat.lt_trans hgq hlt))).snoc (t := (s2, e2, v2)) (hnm.base HK.out.size)).mono (below_blk ((Below.refl W1.heap.size W1).alloc (Nat.le_refl _) (.cells #[.pointer (some ⟨m, 0, none⟩)] 74))))
      have HK2 := Lib.hid ((HK.out.trans hk).alloc (.cells #[.pointer (some ⟨m, 0, none⟩)] 74))
      clear hp hk hnm HP HO HN HK HPN
      go_wp2_with (at_builtin; refine wpList_append_own _ rfl (.tmp 19) (.tmp 21) 111 rfl W.heap.size 74 i0 _ 1 8 Tryz.underlying111 hi0 hz0 hz1 hz2 rfl (by decide) _ _ (ptrs ms) rfl HO2.out _ 1 1 [.pointer (some ⟨m, 0, none⟩)] rfl rfl ?c1 ?c2 ?c3 ?c4 ?c5 ?_)
      case c1 => exact one_cell _ _ _
      case c2 =>
        intro u hu
        simp at hu
        subst hu
        rfl
      case c3 => unfold maxLen; omega
      case c4 => omega
      case c5 => exact HK2.out.size
      intro v' w3 hown' hgrow _
      obtain ⟨A', c', hv⟩ := Joins.ownsRow_form hown' (by omega)
      subst hv
      have HP3 := Lib.hid (HP2.out.grown HO2.out hlt hgrow)
      have HN3 := Lib.hid (HN2.out.mono (grown_blk HO2.out (.inl rfl) hgrow))
      have HK3 := Lib.hid (keep_grown HK2.out HO2.out (Nat.le_refl _) hgrow)
      have HO3 : Hid (w3.ownsRow W.heap.size 74 1 (.slice (some ⟨A', 0, none⟩) (dn.length + 1) c') (dn.length + 1) (ptrs (ms ++ [m]))) := by
        unfold Hid ptrs
        rw [List.map_append]
        exact hown'
      clear hown' hgrow HP2 HO2 HN2 HK2
      go_wp2_with fail
      refine (skip_no HP3.out 13 (by decide)).mono ?_
      rintro x w' ⟨rfl, rfl⟩
      go_wp2_with fail
      go_ret2
      have hl : r.length = dn.length := by simpa using hlen.symm
      rw [← HD.out, hl]
      exact ⟨_, _, _, rfl, HO3.out, HN3.out, ⟨_, _, _, _, HP3.out⟩, HK3.out⟩
    | more _ sp ep s3 e3 v3 r3 hp0 hep hnn he3 k =>
      have HPN := Lib.hid (parseNamed_any HP.out hn he2 hp0)
      have HTN := Lib.hid hnn
      have HKK := Lib.hid k
      clear hp0 hnn k
      go_wp2_with fail
      refine HPN.out.mono ?_
      rintro x W1 ⟨m, rfl, hnm, hp, hk⟩
      have HP2 := Lib.hid (hp.below ((Below.refl W1.heap.size W1).alloc (Nat.le_refl _) (.cells #[.pointer (some ⟨m, 0, none⟩)] 74)))
      have HO2 := Lib.hid ((own_keep HO.out hk hlt (Nat.lt_trans hgq hlt)).alloc (.cells #[.pointer (some ⟨m, 0, none⟩)] 74))
      have HN2 := Lib.hid (((HN.out.mono (keep_blk hk hlt (Nat.lt_trans hgq hlt))).snoc (t := (s2, e2, v2)) (hnm.base HK.out.size)).mono (below_blk ((Below.refl W1.heap.size W1).alloc (Nat.le_refl _) (.cells #[.pointer (some ⟨m, 0, none⟩)] 74))))
      have HK2 := Lib.hid ((HK.out.trans hk).alloc (.cells #[.pointer (some ⟨m, 0, none⟩)] 74))
      clear hp hk hnm HP HO HN HK HPN
      go_wp2_with (at_builtin; refine wpList_append_own _ rfl (.tmp 19) (.tmp 21) 111 rfl W.heap.size 74 i0 _ 1 8 Tryz.underlying111 hi0 hz0 hz1 hz2 rfl (by decide) _ _ (ptrs ms) rfl HO2.out _ 1 1 [.pointer (some ⟨m, 0, none⟩)] rfl rfl ?c1 ?c2 ?c3 ?c4 ?c5 ?_)
      case c1 => exact one_cell _ _ _
      case c2 =>
        intro u hu
        simp at hu
        subst hu
        rfl
      case c3 => unfold maxLen; omega
      case c4 => omega
      case c5 => exact HK2.out.size
      intro v' w3 hown' hgrow _
      obtain ⟨A', c', hv⟩ := Joins.ownsRow_form hown' (by omega)
      subst hv
      have HP3 := Lib.hid (HP2.out.grown HO2.out hlt hgrow)
      have HN3 := Lib.hid (HN2.out.mono (grown_blk HO2.out (.inl rfl) hgrow))
      have HK3 := Lib.hid (keep_grown HK2.out HO2.out (Nat.le_refl _) hgrow)
      have HO3 : Hid (w3.ownsRow W.heap.size 74 1 (.slice (some ⟨A', 0, none⟩) (dn.length + 1) c') (dn.length + 1) (ptrs (ms ++ [m]))) := by
        unfold Hid ptrs
        rw [List.map_append]
        exact hown'
      clear hown' hgrow HP2 HO2 HN2 HK2
      go_wp2_with fail
      refine (skip_yes HP3.out hn hep HTN.out).mono ?_
      rintro x w4 ⟨rfl, hp4, hk4⟩
      have HP4 := Lib.hid hp4
      have HO4 := Lib.hid (own_keep HO3.out hk4 hlt (Nat.lt_trans hgq hlt))
      have HN4 := Lib.hid (HN3.out.mono (keep_blk hk4 hlt (Nat.lt_trans hgq hlt)))
      have HK4 := Lib.hid (HK3.out.trans hk4)
      have HD4 : Hid ((dn ++ [(s2, e2, v2)]) ++ (s3, e3, v3) :: r3 = (s, e, v) :: r) := by
        unfold Hid
        rw [List.append_assoc]
        exact HD.out
      have hl2 : (dn ++ [(s2, e2, v2)]).length = dn.length + 1 := by simp
      rw [← hl2] at HO4
      clear hp4 hk4 HP3 HO3 HN3 HK3 hl2
      go_wp2_with fail
      go_roundg r3.length
      case measure => simp
      case rel => exact ⟨dn ++ [(s2, e2, v2)], r3, ms ++ [m], _, c', _, _, s3, e3, v3, by simp, rfl, he3, HD4, HKK, HO4, HN4, HP4, HK4⟩

end Go.Proofs.YtannihddhebcpaaGreatDoor
