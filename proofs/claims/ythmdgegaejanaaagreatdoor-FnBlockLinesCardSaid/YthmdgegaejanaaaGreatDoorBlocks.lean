/- BLOCK STRINGS: the walk of FnBlockLines: true at every input. -/
import Derived.Test.YthmdgegaejanaaaGreatDoorLawBlocks
import Derived.Test.YthmdgegaejanaaaGreatDoorSpecQ
import Derived.Test.YthmdgegaejanaaaGreatDoorSpecO2
namespace Go.Proofs.YthmdgegaejanaaaGreatDoor
open Go.RowKit

theorem blockCh_of {c : Int} (h : BlockAt c) : BlockCh c := h

/-- The reference's Lines at the text between the quotation marks. -/
theorem refLines_law {P : Nat} {ls : List (List UInt8)} (h : ∀ x ∈ ls, LineOk x) (h8 : ls.length ≤ 8) (hP : P ≤ 12) (w : World) :
    Calls Tryz.prog 70 #[.string (ba (rawOf P ls))] w fun x W => ∃ g cap, x = .returned (.slice (some ⟨g, 0, none⟩) (ls.length + 2) cap) ∧ Rows_ w W g (ls.length + 2) cap (fun i => (rows P ls).getD i ⟨#[]⟩) := by
  have hl := raw_le h h8 hP
  have hcut : Cuts (ba (rawOf P ls)) 0 (rows P ls) := cuts_glue (segs P ls) [] (blanks P) (fun a ha => noEnd_of (segs_byte h a ha)) (noEnd_of (fun j hj => blank_byte j hj))
  refine (specLines_any _ _ (by rw [ba_size]; omega) hcut (by rw [rows_len]; omega) w).mono ?_
  rintro x W ⟨A, c, rfl, hown, hb⟩
  obtain ⟨g, rfl, hR⟩ := Rows_.of_own (by rw [rows_len]; omega) hown hb
  rw [rows_len] at hR
  exact ⟨g, c, by rw [rows_len], hR⟩

theorem rows_size {P : Nat} {ls : List (List UInt8)} (h : ∀ x ∈ ls, LineOk x) (hP : P ≤ 12) (i : Nat) (hi : i < ls.length + 2) : ((rows P ls).getD i ⟨#[]⟩).size ≤ 1000 := by
  by_cases h0 : i = 0
  · subst h0; rw [rows_zero, ba_size]; simp
  · obtain ⟨i, rfl⟩ : ∃ m, i = m + 1 := ⟨i - 1, by omega⟩
    by_cases h1 : i < ls.length
    · rw [rows_mid P ls i h1, ba_size, List.length_append, blanks_len]
      have := (h _ (List.getElem_mem h1)).1.1
      omega
    · obtain rfl : i = ls.length := by omega
      rw [rows_last, ba_size, blanks_len]; omega

/-- sure9 returns at the whole text. -/
theorem sure_law {P : Nat} {ls : List (List UInt8)} (h : ∀ x ∈ ls, LineOk x) (h8 : ls.length ≤ 8) (hP : P ≤ 12) (w : World) :
    Calls Tryz.prog 12 #[.string (ba (textOf P ls))] w fun x w' => (∃ b, x = .returned (.bool b)) ∧ Below w.heap.size w w' := by
  have hl := raw_le h h8 hP
  have hL := text_len P ls
  have hz : (ba (textOf P ls)).size = (rawOf P ls).length + 6 := by rw [ba_size, hL]
  have hraw : (ba (textOf P ls)).extract 3 (3 + (rawOf P ls).length) = ba (rawOf P ls) := extract_mid [34, 34, 34] (rawOf P ls) [34, 34, 34]
  have q0 := (text_quote (P := P) (ls := ls) 0 (by omega)).1
  have q1 := (text_quote (P := P) (ls := ls) 1 (by omega)).1
  have q2 := (text_quote (P := P) (ls := ls) 2 (by omega)).1
  refine sure_some _ (fun w => lexed_done _ (fun w g hx => token_quotes hx (by omega) (by omega) q0 q1 q2 (fun W hW => ?_)) (by omega) w) w
  refine refBlock_any hW (by omega) (3 + (rawOf P ls).length) (by omega) (by omega) (fun j h1 h2 => text_in h j h1 h2) (text_quote 0 (by omega)).2 (text_quote 1 (by omega)).2 (text_quote 2 (by omega)).2 (fun w => ?_) (fun w => ?_)
  · rw [hraw]
    exact plainBlock_any _ (ls.length + 2) _ (by omega) (by omega) (fun i hi => by have := rows_size h hP i hi; omega) (fun w => refLines_law h h8 hP w) w
  · rw [hraw]
    exact blockValue_any _ (ls.length + 2) _ (by omega) (by omega) (fun i hi => rows_size h hP i hi) (fun w => refLines_law h h8 hP w) w

theorem glue_flat : ∀ (sg : List (List UInt8)) (z : List UInt8), glue sg z = sg.flatMap (· ++ [10]) ++ z
  | [], z => rfl
  | a :: r, z => by
    show a ++ ([10] ++ glue r z) = _
    rw [glue_flat r z]
    simp

theorem text_flat (P : Nat) (ls : List (List UInt8)) : textOf P ls = [34, 34, 34, 10] ++ (ls.flatMap (fun x => blanks P ++ (x ++ [10])) ++ (blanks P ++ [34, 34, 34])) := by
  unfold textOf rawOf segs
  rw [glue_flat]
  simp [List.flatMap_map]

theorem join_snoc (r : List (List UInt8)) (y : List UInt8) (h : r ≠ []) : Lib.join (r ++ [y]) [10] = Lib.join r [10] ++ [10] ++ y := by
  match r, h with
  | x :: r, _ =>
    rw [List.cons_append, Lib.join_cons, Lib.join_cons]
    simp [Lib.joinTail]

/-- The tokens of the text, as they lie in memory. -/
theorem blocks_tokens {P : Nat} {ls : List (List UInt8)} (h : ∀ x ∈ ls, LineOk x) (h0 : 0 < ls.length) (h8 : ls.length ≤ 8) (hP : P ≤ 12) (W : World) :
    Calls Tryz.prog 11 #[.string (ba (textOf P ls))] W fun x w' =>
      ∃ g cap, x = .returned (.tuple #[.slice (some ⟨g, 0, none⟩) 1 cap, .bool true]) ∧ w'.cell? ⟨g, 0, none⟩ = some (.int .i64 19) ∧ w'.cell? ⟨g, 1, none⟩ = some (.string (ba (Lib.join ls [10]))) ∧ g < w'.heap.size ∧ Below W.heap.size W w' := by
  have hl := raw_le h h8 hP
  have hL := text_len P ls
  have hz : (ba (textOf P ls)).size = (rawOf P ls).length + 6 := by rw [ba_size, hL]
  refine (tokens_ok (ba (textOf P ls)) _ (text_ascii h) (by omega) (block_lexed h h0 h8 hP) (by rw [hz]; simp) W).mono ?_
  rintro x w' ⟨A, cap, rfl, hown, hb⟩
  obtain ⟨g, cap', hv⟩ := Joins.ownsRow_form hown (by simp)
  rw [hv] at hown
  injection hv with hA hl hcap
  subst hA
  refine ⟨g, cap, rfl, ?_, ?_, (hown.lt g rfl).2, hb⟩
  · rw [hown.cellAt 0 (by simp)]
    simp [flat, Tk.cells]
  · rw [hown.cellAt 1 (by simp)]
    simp [flat, Tk.cells]

theorem blanks_extract : ∀ P : Nat, P ≤ 12 → (⟨#[32, 32, 32, 32, 32, 32, 32, 32, 32, 32, 32, 32]⟩ : ByteArray).extract 0 P = ba (blanks P) := fun P hP => by
  apply ByteArray.ext
  apply Array.toList_inj.1
  rw [Lib.extract_data, ba_list]
  show (List.take (P - 0) [32, 32, 32, 32, 32, 32, 32, 32, 32, 32, 32, 32]) = blanks P
  rw [Nat.sub_zero, show ([32, 32, 32, 32, 32, 32, 32, 32, 32, 32, 32, 32] : List UInt8) = List.replicate 12 32 by rfl, List.take_replicate, Nat.min_eq_left hP]
  rfl

end Go.Proofs.YthmdgegaejanaaaGreatDoor
