/- THE LAW's SMALL FUNCTIONS: zzFits1, named9. -/
import Derived.Test.YtannihddhebcpaaGreatDoorPsP
import Derived.Test.YtannihddhebcpaaGreatDoorPsQ
namespace Go.Proofs.YtannihddhebcpaaGreatDoor
open Go.RowKit

/-- A slice of n texts that lies in memory. -/
structure Texts (w : World) (A : Option Addr) (b o n cap : Nat) (f : Nat → ByteArray) : Prop where
  at_ : 0 < n → A = some ⟨b, o, none⟩
  cell : ∀ i, i < n → w.cell? ⟨b, o + i, none⟩ = some (.string (f i))
  cap : n ≤ cap

theorem Texts.drewN {w : World} {A : Option Addr} {b o n cap : Nat} {f : Nat → ByteArray} (h : Texts w A b o n cap f) (x : Nat) : Texts (w.drewN x) A b o n cap f :=
  ⟨h.at_, h.cell, h.cap⟩

/-- What zzFits1 says. -/
def FitsRes (n : Nat) (f : Nat → ByteArray) (x : Ending) : Prop := (x = .returned (.bool true) ∧ n ≤ 2147483647 ∧ ∀ i, i < n → (f i).size ≤ 2147483647) ∨ x = .returned (.bool false)

set_option maxHeartbeats 1600000 in
set_option maxRecDepth 100000 in
theorem fits_some {w : World} {A : Option Addr} {b o n cap : Nat} {f : Nat → ByteArray} (hT : Texts w A b o n cap f) :
    Calls Tryz.prog 4 #[.slice A n cap] w fun x w' => FitsRes n f x ∧ w = w' := by
  have hcap := hT.cap
  by_cases h0 : n = 0
  · subst h0
    go_enter Tryz.func4, Tryz.ntmps4
    go_wp2_with fail
    go_loop [10] (fun u => u = .int .i64 0) (fun _ => 0)
    case atStart => rfl
    case round =>
      subst hrel
      go_wp2_with fail
      go_ret
      exact ⟨.inl ⟨rfl, by omega, fun i hi => by omega⟩, rfl⟩
  · obtain rfl := hT.at_ (by omega)
    by_cases hbig : 2147483647 < n
    · have d1 : decide ((2147483647 : Int) < (n : Int)) = true := by simp; omega
      clear hT
      go_enter Tryz.func4, Tryz.ntmps4
      go_wp2_with fail
      go_ret
      exact ⟨.inr rfl, rfl⟩
    have d1 : decide ((2147483647 : Int) < (n : Int)) = false := by simp; omega
    have HC := Lib.hid hT.cell
    clear hT
    go_enter Tryz.func4, Tryz.ntmps4
    go_wp2_with fail
    go_loop [10] (fun u => ∃ j : Nat, j ≤ n ∧ Hid (∀ i, i < j → (f i).size ≤ 2147483647) ∧ u = .int .i64 (j : Int)) (fun u => n - (intOf u).toNat)
    case atStart => exact ⟨0, by omega, fun i hi => by omega, rfl⟩
    case round =>
      obtain ⟨j, hj, HJ, rfl⟩ := hrel
      by_cases hlt : j < n
      · have hc := HC.out j hlt
        by_cases hbig : 2147483647 < (f j).size
        · have d2 : decide ((2147483647 : Int) < ((f j).size : Int)) = true := by simp; omega
          go_wp2_with fail
          go_ret
          exact ⟨.inr rfl, rfl⟩
        · have d2 : decide ((2147483647 : Int) < ((f j).size : Int)) = false := by simp; omega
          have HJ2 : Hid (∀ i, i < j + 1 → (f i).size ≤ 2147483647) := fun i hi => by
            by_cases e : i = j
            · rw [e]; omega
            · exact HJ.out i (by omega)
          go_wp2_with fail
          go_round
          case rel => exact ⟨j + 1, by omega, HJ2, by go_num⟩
          case measure => simp [intOf]; omega
      · obtain rfl : j = n := by omega
        go_wp2_with fail
        go_ret
        exact ⟨.inl ⟨rfl, by omega, HJ.out⟩, rfl⟩

def firsts (f : Nat → ByteArray) (i : Nat) : List ByteArray := (List.range i).map f
theorem firsts_succ (f : Nat → ByteArray) (i : Nat) : firsts f (i + 1) = firsts f i ++ [f i] := by simp [firsts, List.range_succ]
theorem firsts_len (f : Nat → ByteArray) (i : Nat) : (firsts f i).length = i := by simp [firsts]

/-- The text of names with lines between. -/
def Joined (f : Nat → ByteArray) (i : Nat) (s : ByteArray) : Prop := match firsts f i with
  | [] => s.data.toList = []
  | x :: r => s.data.toList = x.data.toList ++ tailOf (r.map (·.data.toList))
theorem Joined.first {f : Nat → ByteArray} {i : Nat} {s : ByteArray} (h : Joined f i s) (hi : ¬ 0 < i) : Joined f (i + 1) (s ++ f i) := by
  obtain rfl : i = 0 := by omega
  unfold Joined at h ⊢
  rw [firsts_succ]
  have h' : s.data.toList = [] := h
  show (s ++ f 0).data.toList = (f 0).data.toList ++ tailOf []
  rw [Joins.data_append, h']
  simp [tailOf]
theorem Joined.next {f : Nat → ByteArray} {i : Nat} {s : ByteArray} (h : Joined f i s) (hi : 0 < i) (sep : ByteArray) (hs : sep.data.toList = [32, 124, 32]) : Joined f (i + 1) (s ++ sep ++ f i) := by
  unfold Joined at h ⊢
  rw [firsts_succ]
  cases hf : firsts f i with
  | nil =>
    have := firsts_len f i
    rw [hf] at this
    simp at this
    omega
  | cons x r =>
    rw [hf] at h
    have h' : s.data.toList = x.data.toList ++ tailOf (r.map (·.data.toList)) := h
    show (s ++ sep ++ f i).data.toList = x.data.toList ++ tailOf ((r ++ [f i]).map (·.data.toList))
    rw [Joins.data_append, Joins.data_append, h', hs]
    simp [tailOf]

/-- What named9 says. -/
def NamedRes (W : World) (n : Nat) (f : Nat → ByteArray) (x : Ending) (w' : World) : Prop :=
  (∃ A c s, x = .returned (.tuple #[.slice A n c, .string s, .bool true]) ∧ 0 < n ∧ n ≤ 8 ∧ (∀ i, i < n → IsName (f i).data.toList) ∧ Joined f n s ∧ s.size ≤ 43 * n ∧ w'.ownsRow W.heap.size 32 6 (.slice A n c) n (nodes 33 (firsts f n))) ∨
  (∃ a s, x = .returned (.tuple #[a, .string s, .bool false]))

set_option maxHeartbeats 3200000 in
set_option maxRecDepth 100000 in
theorem named_any {W : World} {A : Option Addr} {b o n cap : Nat} {f : Nat → ByteArray} (hT : Texts W A b o n cap f) (hz : ∀ i, i < n → (f i).size ≤ 2147483647) (hn : n ≤ 2147483647) (hb : 0 < n → b < W.heap.size) :
    Calls Tryz.prog 5 #[.int .i64 33, .slice A n cap, .string ⟨#[124]⟩] W fun x w' => NamedRes W n f x w' ∧ Below W.heap.size W w' := by
  obtain ⟨i0, hi0, hz0, hz1, hz2⟩ := info_parts info32
  have hcap := hT.cap
  have HT := Lib.hid hT
  have HZ := Lib.hid hz
  clear hT hz
  by_cases h0 : n = 0
  · subst h0
    go_enter Tryz.func5, Tryz.ntmps5
    go_wp2_with fail
    go_loop [9, 10, 14] (fun u v q => u = .slice none 0 0 ∧ v = .string ⟨#[]⟩ ∧ q = .int .i64 0) (fun _ _ _ => 0)
    case atStart => exact ⟨rfl, rfl, rfl⟩
    case round =>
      obtain ⟨rfl, rfl, rfl⟩ := hrel
      go_wp2_with fail
      go_ret3
      exact ⟨.inr ⟨_, _, rfl⟩, Below.refl _ _⟩
  · obtain rfl := HT.out.at_ (by omega)
    have hb := hb (by omega)
    go_enter Tryz.func5, Tryz.ntmps5
    go_wp2_with fail
    go_loopg [9, 10, 14] n (fun m u v q wr => ∃ (i : Nat) (A2 : Option Addr) (c2 : Nat) (s : ByteArray), u = .slice A2 i c2 ∧ v = .string s ∧ q = .int .i64 (i : Int) ∧ m = n - i ∧ i ≤ n ∧ s.size ≤ 43 * i ∧ Hid (∀ j, j < i → IsName (f j).data.toList) ∧ Hid (Joined f i s) ∧ Hid (wr.ownsRow W.heap.size 32 6 (.slice A2 i c2) i (nodes 33 (firsts f i))) ∧ Hid (Below W.heap.size W wr))
    case atStart => exact ⟨0, none, 0, _, rfl, rfl, rfl, rfl, by omega, by decide, fun j hj => by omega, rfl, World.ownsRow_nil _ _ _ _, Below.refl _ _⟩
    case round =>
      obtain ⟨i, A2, c2, s, rfl, rfl, rfl, rfl, hi, hs, HJ, HS, HO, HB⟩ := hrel
      by_cases hlt : i < n
      · have hc := (HB.out.cell (p := ⟨b, o + i, none⟩) hb).trans (HT.out.cell i hlt)
        have hz := HZ.out i hlt
        by_cases hok : IsName (f i).data.toList
        · have HPl := Lib.hid (fun w => name_yes (f i) w hok)
          have hsz : (f i).size ≤ 40 := by have := hok.2.1; rwa [len_data] at this
          have HJ2 : Hid (∀ j, j < i + 1 → IsName (f j).data.toList) := fun j hj => by
            by_cases e : j = i
            · rw [e]; exact hok
            · exact HJ.out j (by omega)
          have hc1 : ∀ o', (wr.alloc o').cell? ⟨b, o + i, none⟩ = some (.string (f i)) := fun o' => (World.cell?_alloc_past _ _ _ (show b < wr.heap.size by have := HB.out.size; omega)).trans hc
          have HO2 := Lib.hid (HO.out.alloc (.cells (nodeC 33 (f i)) 32))
          have HB2 := Lib.hid (HB.out.alloc HB.out.size (.cells (nodeC 33 (f i)) 32))
          have HC : Hid (∀ j u, (node1 33 (f i))[j]? = some u → (wr.alloc (.cells (nodeC 33 (f i)) 32)).cell? ((⟨wr.heap.size, 0, none⟩ : Addr).add j) = some u) := six_cells wr (node1 33 (f i)) 32
          have HX : Hid (nodes 33 (firsts f i) ++ node1 33 (f i) = nodes 33 (firsts f (i + 1))) := by
            unfold Hid
            rw [firsts_succ, nodes_snoc]
          clear hok
          have e1 : (⟨#[32]⟩ : ByteArray).size = 1 := rfl
          have e2 : (⟨#[124]⟩ : ByteArray).size = 1 := rfl
          by_cases hpos : 0 < i
          · go_wp2_with fail
            refine (HPl.out _).mono ?_
            rintro x w' ⟨rfl, rfl⟩
            go_wp2_with (at_builtin; refine wpList_append_own _ rfl (.tmp 36) (.tmp 43) 24 rfl W.heap.size 32 i0 _ 6 72 Tryz.underlying24 hi0 hz0 hz1 hz2 rfl (by decide) _ _ (nodes 33 (firsts f i)) rfl HO2.out _ 1 1 (node1 33 (f i)) rfl rfl ?c1 ?c2 ?c3 ?c4 ?c5 ?_)
            case c1 => exact HC.out
            case c2 =>
              intro u hu
              simp [node1] at hu
              rcases hu with rfl | rfl | rfl | rfl | rfl <;> rfl
            case c3 => unfold maxLen; omega
            case c4 => omega
            case c5 => exact HB2.out.size
            intro v' w3 hown' hgrow _
            obtain ⟨A', c', hv⟩ := Joins.ownsRow_form hown' (by omega)
            subst hv
            have HB3 := Lib.hid (below_grown HB2.out (Nat.le_refl _) HO2.out hgrow)
            rw [HX.out] at hown'
            have HO3 := Lib.hid hown'
            clear hown' hgrow HO2 HB2 HO HB HC HX
            go_wp2_with fail
            go_roundg (n - (i + 1))
            case measure => omega
            case rel => exact ⟨i + 1, _, c', _, rfl, rfl, by go_num, rfl, by omega, by simp only [ByteArray.size_append]; omega, HJ2, HS.out.next hpos _ rfl, HO3, HB3⟩
          · go_wp2_with fail
            refine (HPl.out _).mono ?_
            rintro x w' ⟨rfl, rfl⟩
            go_wp2_with (at_builtin; refine wpList_append_own _ rfl (.tmp 36) (.tmp 43) 24 rfl W.heap.size 32 i0 _ 6 72 Tryz.underlying24 hi0 hz0 hz1 hz2 rfl (by decide) _ _ (nodes 33 (firsts f i)) rfl HO2.out _ 1 1 (node1 33 (f i)) rfl rfl ?c1 ?c2 ?c3 ?c4 ?c5 ?_)
            case c1 => exact HC.out
            case c2 =>
              intro u hu
              simp [node1] at hu
              rcases hu with rfl | rfl | rfl | rfl | rfl <;> rfl
            case c3 => unfold maxLen; omega
            case c4 => omega
            case c5 => exact HB2.out.size
            intro v' w3 hown' hgrow _
            obtain ⟨A', c', hv⟩ := Joins.ownsRow_form hown' (by omega)
            subst hv
            have HB3 := Lib.hid (below_grown HB2.out (Nat.le_refl _) HO2.out hgrow)
            rw [HX.out] at hown'
            have HO3 := Lib.hid hown'
            clear hown' hgrow HO2 HB2 HO HB HC HX
            go_wp2_with fail
            go_roundg (n - (i + 1))
            case measure => omega
            case rel => exact ⟨i + 1, _, c', _, rfl, rfl, by go_num, rfl, by omega, by simp only [ByteArray.size_append]; omega, HJ2, HS.out.first hpos, HO3, HB3⟩
        · have HPl := Lib.hid (fun w => name_no (f i) w (by omega) hok)
          clear hok
          go_wp2_with (go_at_call 8; refine (HPl.out _).mono ?_; rintro x w' ⟨rfl, rfl⟩)
          go_ret3
          exact ⟨.inr ⟨_, _, rfl⟩, HB.out⟩
      · obtain rfl : i = n := by omega
        by_cases h8 : i ≤ 8
        · have d8 : decide ((i : Int) ≤ 8) = true := by simp; omega
          go_wp2_with fail
          go_ret3
          exact ⟨.inl ⟨_, _, _, rfl, by omega, h8, HJ.out, HS.out, hs, HO.out⟩, HB.out⟩
        · have d8 : decide ((i : Int) ≤ 8) = false := by simp; omega
          go_wp2_with fail
          go_ret3
          exact ⟨.inr ⟨_, _, rfl⟩, HB.out⟩

end Go.Proofs.YtannihddhebcpaaGreatDoor
