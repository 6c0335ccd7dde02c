/- TOKENS (Tokens): over the chain of one token's contracts. -/
import Derived.Test.YthmdgegaejanaaaGreatDoorTokL
import Derived.Deep.LoopGhost
import Derived.Lib.ConvBytes
import Derived.Lib.AtoiErrMem
import Derived.Lib.SmallJoins
namespace Go.Proofs.YthmdgegaejanaaaGreatDoor
open Go.RowKit

/-- A token as data: its kind, its place, its text. -/
structure Tk where
  kind : Int
  start : Nat
  stop : Nat
  text : ByteArray
def Tk.cells (t : Tk) : List Value := [.int .i64 t.kind, .string t.text, .int .i64 t.start, .int .i64 t.stop]
def flat (l : List Tk) : List Value := l.flatMap Tk.cells

/-- The text's tokens from place i on, up to its end. -/
inductive Lexed (l : List UInt8) : Nat → List Tk → Prop
  | eof (i : Nat) (s e : Nat) (h : TokAt l i 1 s e ⟨#[]⟩) : Lexed l i []
  | tok (i : Nat) (t : Tk) (r : List Tk) (h : TokAt l i t.kind t.start t.stop t.text) (hk : (t.kind == 1) = false) (k : Lexed l t.stop r) : Lexed l i (t :: r)
/-- It is refused somewhere behind these tokens. -/
inductive Refused (l : List UInt8) : Nat → List Tk → Prop
  | bad (i : Nat) (h : ErrAt l i) : Refused l i []
  | tok (i : Nat) (t : Tk) (r : List Tk) (h : TokAt l i t.kind t.start t.stop t.text) (hk : (t.kind == 1) = false) (k : Refused l t.stop r) : Refused l i (t :: r)

theorem info29 : (Tryz.prog.info? 29).map (fun i => (i.zero, i.size, i.bytes)) = some (some (.agg #[.int .i64 0, .string ⟨#[]⟩, .int .i64 0, .int .i64 0]), 4, 40) := by kernel_rfl

set_option maxHeartbeats 1600000 in
set_option maxRecDepth 100000 in
/-- NewSource at a new source without a name: the name is set. -/
theorem source_new (w : World) (v : Value) :
    Calls Tryz.prog 19 #[.pointer (some ⟨w.heap.size, 0, none⟩)] (w.alloc (.cells #[v, .string ⟨#[]⟩] 45)) fun x w' =>
      x = .returned (.pointer (some ⟨w.heap.size, 0, none⟩)) ∧ w.alloc (.cells #[v, .string ⟨#[71, 114, 97, 112, 104, 81, 76]⟩] 45) = w' := by
  go_enter Tryz.func19, Tryz.ntmps19
  go_wp2_with fail
  go_ret
  exact ⟨rfl, rfl⟩

set_option maxHeartbeats 1600000 in
set_option maxRecDepth 100000 in
/-- Lex: the closure over its two variables. -/
theorem lex_any (w : World) (p : Nat) :
    Calls Tryz.prog 18 #[.pointer (some ⟨p, 0, none⟩)] w fun x w' =>
      x = .returned (.func (.func 22) #[] #[.pointer (some ⟨w.heap.size + 1, 0, none⟩), .pointer (some ⟨w.heap.size, 0, none⟩)]) ∧ (w.alloc (.cells #[.pointer (some ⟨p, 0, none⟩)] 42)).alloc (.cells #[.int .i64 0] 3) = w' := by
  have hmf : ∀ (fn : Fn) (first cap : Array Value) (w : World), (Instr.makeFunc fn first cap).run Tryz.prog w = .ok (.func fn first cap) w := fun _ _ _ _ => rfl
  go_enter Tryz.func18, Tryz.ntmps18
  go_wp2_with fail
  go_ret
  exact ⟨rfl, rfl⟩

set_option maxHeartbeats 1600000 in
set_option maxRecDepth 100000 in
theorem token_any (k s e : Int) (v : ByteArray) (w : World) :
    Calls Tryz.prog 20 #[.agg #[.int .i64 k, .int .i64 s, .int .i64 e, .string v]] w fun x w' => x = .returned (.agg #[.int .i64 k, .string v, .int .i64 s, .int .i64 e]) ∧ Below w.heap.size w w' := by
  go_enter Tryz.func20, Tryz.ntmps20
  go_wp2_with fail
  go_returns
  exact ⟨rfl, by go_grown⟩

/-- What is known where a text has been turned into bytes. -/
structure Conv (w W : World) (s : ByteArray) (cap : Nat) : Prop where
  size : W.heap.size = w.heap.size + 1
  body : Body W w.heap.size s.size s.data.toList
  below : Below w.heap.size w W
  cap : s.size ≤ cap

theorem conv_bytes (w : World) (s : ByteArray) (ha : Ascii s.data.toList) : Conv w (Lib.bytesWorld w 5 s) s (grownCap w s.size 0 5) := by
  have hl : s.data.toList.length = s.size := by simp
  refine ⟨Lib.bytesWorld_size w 5 s, ⟨hl, ha, by rw [Lib.bytesWorld_size]; omega, fun i hi => ?_⟩, Lib.bytesWorld_below w 5 s, grownCap_ge w s.size 0 5⟩
  rw [Lib.bytesWorld_cell w 5 s i hi, ch_get (by rw [hl]; exact hi)]
  have hi' : i < s.data.size := hi
  simp only [List.getD, Array.getElem?_toList, Array.getElem?_eq_getElem hi', Option.getD_some, Array.getElem_toList]

theorem kept_cell {a w : World} {g b j : Nat} (h : a.grownBy w (some g)) (hb : b < a.heap.size) (hne : b ≠ g) : w.cell? ⟨b, j, none⟩ = a.cell? ⟨b, j, none⟩ := only_cell (p := ⟨b, j, none⟩) h hb hne
theorem kept_frozen {a w : World} {g b j : Nat} (h : a.grownBy w (some g)) (hb : b < a.heap.size) (hne : b ≠ g) : w.frozen? ⟨b, j, none⟩ = a.frozen? ⟨b, j, none⟩ := only_frozen (p := ⟨b, j, none⟩) h hb hne

/-- The state of the loop over tokens: what it has, where it is. -/
structure St (w W0 W : World) (s : ByteArray) (cap : Nat) (A : Option Addr) (c : Nat) (done : List Tk) (i : Nat) : Prop where
  own : W.ownsRow (W0.heap.size + 3) 29 4 (.slice A done.length c) done.length (flat done)
  vars : Vars W (W0.heap.size + 1 + 1) (W0.heap.size + 1) W0.heap.size i
  src : Src W W0.heap.size w.heap.size s.size cap s.data.toList
  below : Below w.heap.size w W
  size : W0.heap.size + 3 ≤ W.heap.size
  lt : w.heap.size < W0.heap.size

section
variable {w W0 W : World} {s : ByteArray} {cap : Nat} {A : Option Addr} {c : Nat} {done : List Tk} {i : Nat}

theorem St.start (h : Conv w W0 s cap) (v : Value) : St w W0 (((W0.alloc (.cells #[.slice (some ⟨w.heap.size, 0, none⟩) s.size cap, v] 45)).alloc (.cells #[.pointer (some ⟨W0.heap.size, 0, none⟩)] 42)).alloc (.cells #[.int .i64 0] 3)) s cap none 0 [] 0 := by
  have hb : Below W0.heap.size W0 (((W0.alloc (.cells #[.slice (some ⟨w.heap.size, 0, none⟩) s.size cap, v] 45)).alloc (.cells #[.pointer (some ⟨W0.heap.size, 0, none⟩)] 42)).alloc (.cells #[.int .i64 0] 3)) :=
    (((Below.refl _ W0).alloc (Nat.le_refl _) _).alloc (by simp) _).alloc (by simp; omega) _
  have hs := h.size
  refine ⟨World.ownsRow_nil _ _ _ _, ⟨?_, ?_, ?_, by simp, by simp⟩, ⟨h.body.below hb, by simp; omega, ?_, h.cap⟩, h.below.trans (hb.mono (by omega)), by simp, by omega⟩
  · rw [World.cell?_alloc_at _ _ _ _ (by simp)]; rfl
  · exact World.frozen?_alloc_at _ _ _ _ (by simp)
  · rw [World.cell?_alloc_past _ _ _ (by simp), World.cell?_alloc_at _ _ _ _ (by simp)]; rfl
  · rw [World.cell?_alloc_past _ _ _ (by simp; omega), World.cell?_alloc_past _ _ _ (by simp), World.cell?_alloc_at _ _ _ _ rfl]; rfl

/-- Behind one call of the closure. -/
theorem St.next {w1 : World} {e : Nat} (h : St w W0 W s cap A c done i) (hc : w1.cell? ⟨W0.heap.size + 1 + 1, 0, none⟩ = some (.int .i64 e)) (hf : w1.frozen? ⟨W0.heap.size + 1 + 1, 0, none⟩ = false) (hg : W.grownBy w1 (some (W0.heap.size + 1 + 1))) :
    St w W0 w1 s cap A c done e := by
  have hs := h.size
  have hl := h.lt
  have hz := hg.size
  refine ⟨h.own.kept hg ?_, ⟨hc, hf, ?_, by omega, by omega⟩, ⟨⟨h.src.body.len, h.src.body.ascii, by omega, fun j hj => ?_⟩, by omega, ?_, h.src.cap⟩, below_of_only h.below hg (by omega) (by omega), by omega, hl⟩
  · right
    intro e2
    have := (h.own.lt _ e2).1
    omega
  · exact (kept_cell hg (by omega) (by omega)).trans h.vars.src
  · exact (kept_cell hg (by omega) (by omega)).trans (h.src.body.cell j hj)
  · exact (kept_cell hg (by omega) (by omega)).trans h.src.cell
theorem St.under {W' : World} (h : St w W0 W s cap A c done i) (hb : Below W.heap.size W W') : St w W0 W' s cap A c done i := by
  have hs := h.size
  have hl := h.lt
  have hz := hb.size
  refine ⟨h.own.kept (row := none) ⟨hb.os, hb.tape, hb.output, hb.size, fun k hk _ => hb.block k hk⟩ ?_, ⟨(hb.cell (p := ⟨_, 0, none⟩) h.vars.lg).trans h.vars.pos, (hb.frozen (p := ⟨_, 0, none⟩) h.vars.lg).trans h.vars.free, (hb.cell (p := ⟨_, 0, none⟩) h.vars.lh).trans h.vars.src, by omega, by omega⟩,
    h.src.below hb, h.below.trans (hb.mono (by omega)), by omega, hl⟩
  rcases h' : (Value.slice A done.length c).ownBlock with _ | k
  · exact .inl rfl
  · exact .inr (by intro e; cases e)

theorem flat_snoc (l : List Tk) (t : Tk) : flat (l ++ [t]) = flat l ++ t.cells := by simp [flat]

/-- Behind the append of a token. -/
theorem St.put {w' : World} {v' : Value} {t : Tk} (h : St w W0 W s cap A c done i) (hown : w'.ownsRow (W0.heap.size + 3) 29 4 v' (done.length + 1) (flat done ++ t.cells)) (hg : W.grownBy w' (Value.slice A done.length c).ownBlock) :
    ∃ A' c', v' = .slice A' (done ++ [t]).length c' ∧ St w W0 w' s cap A' c' (done ++ [t]) i := by
  obtain ⟨g, c', rfl⟩ := Joins.ownsRow_form hown (by omega)
  have hs := h.size
  have hl := h.lt
  have hz := hg.size
  have hne : ∀ k, k < W0.heap.size + 3 → some k ≠ (Value.slice A done.length c).ownBlock := fun k hk e => by have := (h.own.lt k e.symm).1; omega
  have hc : ∀ k j, k < W0.heap.size + 3 → w'.cell? ⟨k, j, none⟩ = W.cell? ⟨k, j, none⟩ := fun k j hk => World.cell?_of_block (hg.block k (by omega) (hne k hk))
  have hf : ∀ k j, k < W0.heap.size + 3 → w'.frozen? ⟨k, j, none⟩ = W.frozen? ⟨k, j, none⟩ := fun k j hk => World.frozen?_of_block (hg.block k (by omega) (hne k hk))
  have hlen : (done ++ [t]).length = done.length + 1 := by simp
  refine ⟨_, c', by rw [hlen], ⟨by rw [hlen, flat_snoc]; exact hown, ⟨(hc _ _ (by omega)).trans h.vars.pos, (hf _ _ (by omega)).trans h.vars.free, (hc _ _ (by omega)).trans h.vars.src, by omega, by omega⟩,
    ⟨⟨h.src.body.len, h.src.body.ascii, by omega, fun j hj => (hc _ _ (by omega)).trans (h.src.body.cell j hj)⟩, by omega, (hc _ _ (by omega)).trans h.src.cell, h.src.cap⟩,
    ⟨hg.os.trans h.below.os, hg.tape.trans h.below.tape, hg.output.trans h.below.output, by have := h.below.size; omega, fun k hk => (hg.block k (by omega) (hne k (by omega))).trans (h.below.block k hk)⟩, by omega, hl⟩⟩
end

theorem own_base {w : World} {B B' : Nat} {e : TypeId} {size n : Nat} {v : Value} {xs : List Value} (h : w.ownsRow B e size v n xs) (hB : B' ≤ B) : w.ownsRow B' e size v n xs := by
  refine ⟨h.1, ?_⟩
  rcases h.2 with h2 | ⟨g, cap, cur, h1, h2, h3⟩
  · exact .inl h2
  · exact .inr ⟨g, cap, cur, h1, by omega, h3⟩

set_option maxHeartbeats 3200000 in
set_option maxRecDepth 100000 in
theorem tokens_ok (s : ByteArray) (ts : List Tk) (ha : Ascii s.data.toList) (hn : s.size ≤ 2199023255552) (hL : Lexed s.data.toList 0 ts) (ht : ts.length ≤ s.size) (w : World) :
    Calls Tryz.prog 11 #[.string s] w fun x w' => ∃ A c, x = .returned (.tuple #[.slice A ts.length c, .bool true]) ∧ w'.ownsRow w.heap.size 29 4 (.slice A ts.length c) ts.length (flat ts) ∧ Below w.heap.size w w' := by
  obtain ⟨i0, hi0, hz0, hz1, hz2⟩ := info_parts info29
  have hcv := Lib.run_convert_string_bytes (P := Tryz.prog) w 9 32 5 s (u := .string) Tryz.underlying9 Tryz.underlying32 Tryz.underlying5
  have hC := conv_bytes w s ha
  generalize grownCap w s.size 0 5 = cap at hcv hC
  generalize Lib.bytesWorld w 5 s = W0 at hcv hC
  have HS := Lib.hid (St.start hC (.string ⟨#[71, 114, 97, 112, 104, 81, 76]⟩))
  have HL := Lib.hid hL
  clear hL hC
  go_enter Tryz.func11, Tryz.ntmps11
  go_wp2_with (first | (go_at_call 19; refine (source_new _ _).mono ?_; rintro x w' ⟨rfl, rfl⟩) | (go_at_call 18; refine (lex_any _ _).mono ?_; rintro x w' ⟨rfl, rfl⟩))
  go_loopg [2] ts.length (fun k v wr => ∃ (done rest : List Tk) (i : Nat) (A : Option Addr) (c : Nat), v = .slice A done.length c ∧ k = rest.length ∧ Hid (done ++ rest = ts) ∧ Hid (Lexed s.data.toList i rest) ∧ Hid (St w W0 wr s cap A c done i))
  case atStart => exact ⟨[], ts, 0, none, 0, rfl, rfl, rfl, HL, HS⟩
  case round =>
    obtain ⟨done, rest, i, A, c, rfl, rfl, HD, HX, HQ⟩ := hrel
    clear HS HL hcv
    have hlen : done.length + rest.length ≤ s.size := by have := HD.out; rw [← List.length_append, this]; exact ht
    have hn' : s.size ≤ 4611686018427387904 := by omega
    have hq := HQ.out
    have hx := HX.out
    clear HQ HX
    cases hx with
    | eof _ s0 e0 h =>
      have HN := Lib.hid (next_tok h hq.src hn' hq.vars)
      have HQ := Lib.hid hq
      have hd := HD.out
      rw [List.append_nil] at hd
      subst hd
      clear hq HD h
      go_wp2_with fail
      refine HN.out.mono ?_
      rintro x w1 ⟨rfl, hc1, hf1, hg1⟩
      have HQ1 := Lib.hid (HQ.out.next hc1 hf1 hg1)
      clear hc1 hf1 hg1 HQ
      go_wp2_with fail
      go_ret2
      exact ⟨_, _, rfl, (own_base HQ1.out.own (by have := HQ1.out.lt; omega)).alloc _, HQ1.out.below.alloc (by have := HQ1.out.size; have := HQ1.out.lt; omega) _⟩
    | tok _ tk r h hk k =>
      have HN := Lib.hid (next_tok h hq.src hn' hq.vars)
      have HQ := Lib.hid hq
      have HK := Lib.hid k
      clear hq h k
      obtain ⟨k, s1, e1, v1⟩ := tk
      simp only at hk HN HK
      go_wp2_with fail
      refine HN.out.mono ?_
      rintro x w1 ⟨rfl, hc1, hf1, hg1⟩
      have HQ1 := Lib.hid (HQ.out.next hc1 hf1 hg1)
      clear hc1 hf1 hg1 HQ
      go_wp2_with fail
      refine (token_any _ _ _ _ _).mono ?_
      rintro x w2 ⟨rfl, hb2⟩
      have HQ2 := Lib.hid ((HQ1.out.under ((Below.refl _ w1).alloc (Nat.le_refl _) _)).under hb2)
      clear hb2 HQ1
      go_wp2_with (at_builtin; refine wpList_append_own _ rfl (.tmp 29) (.tmp 32) 25 rfl (W0.heap.size + 3) 29 i0 _ 4 40 Tryz.underlying25 hi0 hz0 hz1 hz2 rfl (by decide) _ _ (flat done) rfl (HQ2.out.own.alloc _) ⟨w2.heap.size, 0, none⟩ 1 1 (Tk.cells ⟨k, s1, e1, v1⟩) rfl rfl ?c1 ?c2 ?c3 ?c4 ?c5 ?_)
      case c1 =>
        intro j u hj
        match j, hj with
        | 0, hj => simp [Tk.cells] at hj; subst hj; simp [Addr.add]
        | 1, hj => simp [Tk.cells] at hj; subst hj; simp [Addr.add]
        | 2, hj => simp [Tk.cells] at hj; subst hj; simp [Addr.add]
        | 3, hj => simp [Tk.cells] at hj; subst hj; simp [Addr.add]
      case c2 =>
        intro u hu
        simp [Tk.cells] at hu
        rcases hu with rfl | rfl | rfl | rfl <;> rfl
      case c3 => unfold maxLen; omega
      case c4 => omega
      case c5 => have := HQ2.out.size; simp; omega
      intro v' w3 hown' hgrow _
      obtain ⟨A', c', hv, hQ3⟩ := (HQ2.out.under ((Below.refl _ w2).alloc (Nat.le_refl _) _)).put (t := ⟨k, s1, e1, v1⟩) hown' hgrow
      have HQ3 := Lib.hid hQ3
      clear hown' hgrow hQ3 HQ2
      rw [hv]
      clear hv
      go_wp2_with fail
      go_roundg r.length
      case measure => simp
      case rel => exact ⟨done ++ [⟨k, s1, e1, v1⟩], r, e1, A', c', rfl, rfl, by have := HD.out; show _ = _; rw [List.append_assoc]; exact this, HK, HQ3⟩

set_option maxHeartbeats 3200000 in
set_option maxRecDepth 100000 in
theorem tokens_bad (s : ByteArray) (ts : List Tk) (ha : Ascii s.data.toList) (hn : s.size ≤ 2199023255552) (hL : Refused s.data.toList 0 ts) (ht : ts.length ≤ s.size) (w : World) :
    Calls Tryz.prog 11 #[.string s] w fun x w' => x = .returned (.tuple #[.slice none 0 0, .bool false]) ∧ Below w.heap.size w w' := by
  obtain ⟨i0, hi0, hz0, hz1, hz2⟩ := info_parts info29
  have hcv := Lib.run_convert_string_bytes (P := Tryz.prog) w 9 32 5 s (u := .string) Tryz.underlying9 Tryz.underlying32 Tryz.underlying5
  have hC := conv_bytes w s ha
  generalize grownCap w s.size 0 5 = cap at hcv hC
  generalize Lib.bytesWorld w 5 s = W0 at hcv hC
  have HS := Lib.hid (St.start hC (.string ⟨#[71, 114, 97, 112, 104, 81, 76]⟩))
  have HL := Lib.hid hL
  clear hL hC
  go_enter Tryz.func11, Tryz.ntmps11
  go_wp2_with (first | (go_at_call 19; refine (source_new _ _).mono ?_; rintro x w' ⟨rfl, rfl⟩) | (go_at_call 18; refine (lex_any _ _).mono ?_; rintro x w' ⟨rfl, rfl⟩))
  go_loopg [2] ts.length (fun k v wr => ∃ (done rest : List Tk) (i : Nat) (A : Option Addr) (c : Nat), v = .slice A done.length c ∧ k = rest.length ∧ Hid (done ++ rest = ts) ∧ Hid (Refused s.data.toList i rest) ∧ Hid (St w W0 wr s cap A c done i))
  case atStart => exact ⟨[], ts, 0, none, 0, rfl, rfl, rfl, HL, HS⟩
  case round =>
    obtain ⟨done, rest, i, A, c, rfl, rfl, HD, HX, HQ⟩ := hrel
    clear HS HL hcv
    have hlen : done.length + rest.length ≤ s.size := by have := HD.out; rw [← List.length_append, this]; exact ht
    have hn' : s.size ≤ 4611686018427387904 := by omega
    have hq := HQ.out
    have hx := HX.out
    clear HQ HX
    cases hx with
    | bad _ h =>
      have HN := Lib.hid (next_err h hq.src hn' hq.vars)
      have HQ := Lib.hid hq
      clear hq h
      go_wp2_with fail
      refine HN.out.mono ?_
      rintro x w1 ⟨⟨aerr, rfl⟩, hg1⟩
      have hb1 : Below w.heap.size w w1 := below_of_only HQ.out.below hg1 (by have := HQ.out.lt; omega) (by have := HQ.out.size; have := HQ.out.lt; omega)
      have HB1 := Lib.hid hb1
      clear hb1 hg1 HQ
      go_wp2_with fail
      go_ret2
      exact ⟨rfl, HB1.out.alloc HB1.out.size _⟩
    | tok _ tk r h hk k =>
      have HN := Lib.hid (next_tok h hq.src hn' hq.vars)
      have HQ := Lib.hid hq
      have HK := Lib.hid k
      clear hq h k
      obtain ⟨k, s1, e1, v1⟩ := tk
      simp only at hk HN HK
      go_wp2_with fail
      refine HN.out.mono ?_
      rintro x w1 ⟨rfl, hc1, hf1, hg1⟩
      have HQ1 := Lib.hid (HQ.out.next hc1 hf1 hg1)
      clear hc1 hf1 hg1 HQ
      go_wp2_with fail
      refine (token_any _ _ _ _ _).mono ?_
      rintro x w2 ⟨rfl, hb2⟩
      have HQ2 := Lib.hid ((HQ1.out.under ((Below.refl _ w1).alloc (Nat.le_refl _) _)).under hb2)
      clear hb2 HQ1
      go_wp2_with (at_builtin; refine wpList_append_own _ rfl (.tmp 29) (.tmp 32) 25 rfl (W0.heap.size + 3) 29 i0 _ 4 40 Tryz.underlying25 hi0 hz0 hz1 hz2 rfl (by decide) _ _ (flat done) rfl (HQ2.out.own.alloc _) ⟨w2.heap.size, 0, none⟩ 1 1 (Tk.cells ⟨k, s1, e1, v1⟩) rfl rfl ?c1 ?c2 ?c3 ?c4 ?c5 ?_)
      case c1 =>
        intro j u hj
        match j, hj with
        | 0, hj => simp [Tk.cells] at hj; subst hj; simp [Addr.add]
        | 1, hj => simp [Tk.cells] at hj; subst hj; simp [Addr.add]
        | 2, hj => simp [Tk.cells] at hj; subst hj; simp [Addr.add]
        | 3, hj => simp [Tk.cells] at hj; subst hj; simp [Addr.add]
      case c2 =>
        intro u hu
        simp [Tk.cells] at hu
        rcases hu with rfl | rfl | rfl | rfl <;> rfl
      case c3 => unfold maxLen; omega
      case c4 => omega
      case c5 => have := HQ2.out.size; simp; omega
      intro v' w3 hown' hgrow _
      obtain ⟨A', c', hv, hQ3⟩ := (HQ2.out.under ((Below.refl _ w2).alloc (Nat.le_refl _) _)).put (t := ⟨k, s1, e1, v1⟩) hown' hgrow
      have HQ3 := Lib.hid hQ3
      clear hown' hgrow hQ3 HQ2
      rw [hv]
      clear hv
      go_wp2_with fail
      go_roundg r.length
      case measure => simp
      case rel => exact ⟨done ++ [⟨k, s1, e1, v1⟩], r, e1, A', c', rfl, rfl, by have := HD.out; show _ = _; rw [List.append_assoc]; exact this, HK, HQ3⟩

end Go.Proofs.YthmdgegaejanaaaGreatDoor
