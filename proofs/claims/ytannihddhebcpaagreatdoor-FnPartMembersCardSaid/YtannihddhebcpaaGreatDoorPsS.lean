/- THE MEMBERS OF A UNION: the walk of FnPartMembers: true at every input. -/
import Derived.Test.YtannihddhebcpaaGreatDoorPsR
namespace Go.Proofs.YtannihddhebcpaaGreatDoor
open Go.RowKit

/-- ReadPart at the text of the names and a closing brace. -/
theorem read_law {n : Nat} {f : Nat → ByteArray} {s : ByteArray} (h0 : 0 < n) (h8 : n ≤ 8) (hN : ∀ i, i < n → IsName (f i).data.toList) (hJ : Joined f n s) (hs : s.size ≤ 43 * n) (W : World) :
    Calls Tryz.prog 6 #[.int .i64 33, .string (s ++ ⟨#[32, 125]⟩)] W fun x w' => ∃ A c, x = .returned (.tuple #[.slice A n c, .int .i64 ((s.size : Int) + 1), .bool true]) ∧ w'.ownsRow W.heap.size 32 6 (.slice A n c) n (nodes 33 (firsts f n)) ∧ Below W.heap.size W w' := by
  have hl := firsts_len f n
  have hall : ∀ y ∈ firsts f n, IsName y.data.toList := fun y hy => by
    obtain ⟨j, hj, rfl⟩ := List.mem_map.1 hy
    exact hN j (List.mem_range.1 hj)
  unfold Joined at hJ
  cases hf : firsts f n with
  | nil => rw [hf] at hl; simp at hl; omega
  | cons x r =>
    rw [hf] at hJ hall hl
    have hJ' : s.data.toList = x.data.toList ++ tailOf (r.map (·.data.toList)) := hJ
    have hx : IsName x.data.toList := hall x (List.mem_cons_self ..)
    have hr : ∀ y ∈ r.map (·.data.toList), IsName y := fun y hy => by
      obtain ⟨y', hy', rfl⟩ := List.mem_map.1 hy
      exact hall y' (List.mem_cons_of_mem _ hy')
    have hS : (s ++ ⟨#[32, 125]⟩ : ByteArray).data.toList = x.data.toList ++ (tailOf (r.map (·.data.toList)) ++ [32, 125]) := by
      rw [Joins.data_append, hJ', List.append_assoc]
    have hsz : (s ++ ⟨#[32, 125]⟩ : ByteArray).size = s.size + 2 := by rw [ByteArray.size_append]; rfl
    have hss : s.size = x.data.toList.length + (tailOf (r.map (·.data.toList))).length := by rw [← len_data, hJ', List.length_append]
    have hrl : r.length + 1 = n := by simpa using hl
    have ht := first_of x.data.toList (r.map (·.data.toList)) hx
    have hm := mems_of (r.map (·.data.toList)) x.data.toList hr
    have ha := text_ascii x.data.toList (r.map (·.data.toList)) hx hr
    rw [← hS] at ht hm ha
    have hp := places_len x.data.toList.length (r.map (·.data.toList))
    rw [List.length_map] at hp
    have hnm : names ((0, x.data.toList.length, ba x.data.toList) :: places x.data.toList.length (r.map (·.data.toList))) = x :: r := by
      have := places_names x.data.toList.length (r.map (·.data.toList))
      unfold names
      rw [List.map_cons, this, List.map_map]
      show ba x.data.toList :: r.map (fun y => ba y.data.toList) = x :: r
      rw [ba_of]
      congr 1
      exact List.map_id r
    have hR := readPartD_any (s ++ ⟨#[32, 125]⟩) ha (by rw [hsz]; omega) ht hx.start.2 hm (by rw [hp]; omega) W
    rw [hp, hrl, hnm] at hR
    refine hR.mono ?_
    rintro e w' ⟨A, c, rfl, ho, hb⟩
    refine ⟨A, c, ?_, ho, hb⟩
    rw [show ((x.data.toList.length + (tailOf (r.map (·.data.toList))).length + 1 : Nat) : Int) = (s.size : Int) + 1 by omega]

set_option maxHeartbeats 3200000 in
set_option maxRecDepth 100000 in
/-- FnPartMembers: true, whatever the input. -/
theorem law_any {W : World} {A : Option Addr} {b o n cap : Nat} {f : Nat → ByteArray} (hT : Texts W A b o n cap f) (hb : 0 < n → b < W.heap.size) :
    Calls Tryz.prog 3 #[.slice A n cap] W fun x w' => x = .returned (.bool true) ∧ Below W.heap.size W w' := by
  have HF := Lib.hid (fits_some hT)
  have HT := Lib.hid hT
  clear hT
  go_enter Tryz.func3, Tryz.ntmps3
  go_wp2_with fail
  refine HF.out.mono ?_
  rintro x w' ⟨hfr, rfl⟩
  rcases hfr with ⟨rfl, hn, hz⟩ | rfl
  rotate_left
  · go_wp2_with fail
    go_ret
    exact ⟨rfl, Below.refl _ _⟩
  · have HNM := Lib.hid (named_any HT.out hz hn hb)
    clear hz
    go_wp2_with fail
    refine HNM.out.mono ?_
    rintro x W1 ⟨hres, hb1⟩
    have HB1 := Lib.hid hb1
    clear hb1 HNM
    rcases hres with ⟨A2, c2, s, rfl, h0, h8, hN, hJ, hs, ho⟩ | ⟨a, s, rfl⟩
    · have HR := Lib.hid (fun W => read_law h0 h8 hN hJ hs W)
      have HO := Lib.hid ho
      clear hN hJ ho
      have hz2 : (⟨#[32, 125]⟩ : ByteArray).size = 2 := rfl
      have heq : ((s.size : Int) + 1 == (s.size : Int) + 2 - 1) = true := by simp; omega
      go_wp2_with fail
      refine (HR.out _).mono ?_
      rintro x W2 ⟨A3, c3, rfl, ho3, hb3⟩
      have HS := Lib.hid (same_any (firsts f n) (firsts_len f n) h0 (by omega) ho3 (own_below HO.out hb3))
      have HB3 := Lib.hid (HB1.out.trans (hb3.mono HB1.out.size))
      clear ho3 hb3 HR HO
      go_wp2_with fail
      refine HS.out.mono ?_
      rintro x W3 ⟨rfl, hb4⟩
      have HB4 := Lib.hid (HB3.out.trans (hb4.mono HB3.out.size))
      clear hb4 HS
      go_wp2_with fail
      go_ret
      exact ⟨rfl, HB4.out⟩
    · go_wp2_with fail
      go_ret
      exact ⟨rfl, HB1.out⟩

end Go.Proofs.YtannihddhebcpaaGreatDoor
