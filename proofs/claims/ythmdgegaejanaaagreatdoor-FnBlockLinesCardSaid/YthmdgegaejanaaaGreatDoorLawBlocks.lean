/- BLOCK STRINGS: the plain law: lines set in by blanks, between lines of blanks; what blockStringValue makes of them; the token. -/
import Derived.Test.YthmdgegaejanaaaGreatDoorBlkE
import Derived.Test.YthmdgegaejanaaaGreatDoorTokS1
import Derived.Test.YthmdgegaejanaaaGreatDoorLawStrings
namespace Go.Proofs.YthmdgegaejanaaaGreatDoor
open Go.RowKit

def ba (l : List UInt8) : ByteArray := ⟨l.toArray⟩
theorem ba_list (l : List UInt8) : (ba l).data.toList = l := rfl
theorem ba_size (l : List UInt8) : (ba l).size = l.length := by rw [← len_data, ba_list]
theorem ba_of (s : ByteArray) : ba s.data.toList = s := rfl
theorem extract_mid (X A Y : List UInt8) : (ba (X ++ (A ++ Y))).extract X.length (X.length + A.length) = ba A := by
  have h := sub_extract (X ++ (A ++ Y)) X.length (X.length + A.length)
  rw [sub_mid] at h
  exact h

theorem extract_tail (X z : List UInt8) : (ba (X ++ z)).extract X.length (ba (X ++ z)).size = ba z := by
  have h := extract_mid X z []
  rw [List.append_nil] at h
  rw [ba_size, List.length_append]
  exact h

/-- Pieces with line feeds behind them, and a last one. -/
def glue : List (List UInt8) → List UInt8 → List UInt8
  | [], z => z
  | a :: r, z => a ++ ([10] ++ glue r z)
def NoEnd (l : List UInt8) : Prop := ∀ j, j < l.length → ch l j ≠ 10 ∧ ch l j ≠ 13

theorem cuts_glue : ∀ (segs : List (List UInt8)) (X z : List UInt8), (∀ a ∈ segs, NoEnd a) → NoEnd z → Cuts (ba (X ++ glue segs z)) X.length (segs.map ba ++ [ba z])
  | [], X, z, _, hz => by
    have h := Cuts.last (s := ba (X ++ z)) X.length (by rw [ba_size, List.length_append]; omega) (fun j h1 h2 => by
      rw [ba_size, List.length_append] at h2
      rw [ba_list, show j = X.length + (j - X.length) by omega, ch_right]
      exact hz _ (by omega))
    rw [extract_tail] at h
    exact h
  | a :: r, X, z, hs, hz => by
    have ih := cuts_glue r (X ++ (a ++ [10])) z (fun b hb => hs b (List.mem_cons_of_mem _ hb)) hz
    have e1 : X ++ (a ++ [10]) ++ glue r z = X ++ (a ++ ([10] ++ glue r z)) := by simp
    have e2 : (X ++ (a ++ [10])).length = X.length + a.length + 1 := by simp; omega
    rw [e1, e2] at ih
    have h := Cuts.cut (s := ba (X ++ (a ++ ([10] ++ glue r z)))) X.length (X.length + a.length) _ (by omega) (by rw [ba_size]; simp) (fun j h1 h2 => by
      rw [ba_list, show j = X.length + (j - X.length) by omega, ch_right, ch_left (by omega)]
      exact hs a (List.mem_cons_self ..) _ (by omega)) (by
      rw [ba_list, ch_right, ch_at (Nat.le_refl _), Nat.sub_self, ch_left (by decide)]; decide) ih
    rw [extract_mid] at h
    exact h

theorem glue_le (N : Nat) : ∀ (segs : List (List UInt8)) (z : List UInt8), (∀ a ∈ segs, a.length ≤ N) → (glue segs z).length ≤ segs.length * (N + 1) + z.length
  | [], z, _ => by simp [glue]
  | a :: r, z, h => by
    have ih := glue_le N r z (fun b hb => h b (List.mem_cons_of_mem _ hb))
    have ha := h a (List.mem_cons_self ..)
    show (a ++ ([10] ++ glue r z)).length ≤ (r.length + 1) * (N + 1) + z.length
    rw [Nat.succ_mul]
    simp only [List.length_append, List.length_cons, List.length_nil]
    omega

/-- One line of the text: plain, not empty, no blank ahead. -/
def LineOk (x : List UInt8) : Prop := Plain x ∧ 0 < x.length ∧ ch x 0 ≠ 32
def blanks (P : Nat) : List UInt8 := List.replicate P 32
theorem blanks_len (P : Nat) : (blanks P).length = P := by simp [blanks]
theorem blanks_ch (P j : Nat) (h : j < P) : ch (blanks P) j = 32 := by
  rw [ch_get (by rw [blanks_len]; exact h)]
  simp [blanks]
def segs (P : Nat) (ls : List (List UInt8)) : List (List UInt8) := [] :: ls.map (blanks P ++ ·)
def rawOf (P : Nat) (ls : List (List UInt8)) : List UInt8 := glue (segs P ls) (blanks P)
def rows (P : Nat) (ls : List (List UInt8)) : List ByteArray := (segs P ls).map ba ++ [ba (blanks P)]

theorem rows_len (P : Nat) (ls : List (List UInt8)) : (rows P ls).length = ls.length + 2 := by simp [rows, segs]
theorem rows_zero (P : Nat) (ls : List (List UInt8)) : (rows P ls).getD 0 ⟨#[]⟩ = ba [] := by simp [rows, segs]
theorem rows_mid (P : Nat) (ls : List (List UInt8)) (i : Nat) (h : i < ls.length) : (rows P ls).getD (i + 1) ⟨#[]⟩ = ba (blanks P ++ ls[i]) := by
  rw [rows, segs, List.map_cons, List.cons_append, List.getD_cons_succ, List.getD_eq_getElem?_getD, List.getElem?_append_left (by simpa using h)]
  simp [h]
theorem rows_last (P : Nat) (ls : List (List UInt8)) : (rows P ls).getD (ls.length + 1) ⟨#[]⟩ = ba (blanks P) := by
  simp [rows, segs, List.getD]

theorem line_byte {x : List UInt8} (h : LineOk x) (j : Nat) (hj : j < x.length) : ch x j ≠ 10 ∧ ch x j ≠ 13 ∧ ch x j < 128 ∧ 0 ≤ ch x j := by
  have := h.1.2 j hj
  unfold PlainCh at this
  omega
theorem padded_byte {P : Nat} {x : List UInt8} (h : LineOk x) (j : Nat) (hj : j < (blanks P ++ x).length) : BlockAt (ch (blanks P ++ x) j) ∧ ch (blanks P ++ x) j ≠ 10 := by
  rw [List.length_append, blanks_len] at hj
  unfold BlockAt
  by_cases hP : j < P
  · rw [ch_left (by rw [blanks_len]; exact hP), blanks_ch P j hP]; omega
  · rw [ch_at (by rw [blanks_len]; omega), blanks_len]
    have := h.1.2 (j - P) (by omega)
    unfold PlainCh at this
    omega
theorem blank_byte {P : Nat} (j : Nat) (hj : j < (blanks P).length) : BlockAt (ch (blanks P) j) ∧ ch (blanks P) j ≠ 10 := by
  rw [blanks_len] at hj
  unfold BlockAt
  rw [blanks_ch P j hj]; omega
theorem noEnd_of {l : List UInt8} (h : ∀ j, j < l.length → BlockAt (ch l j) ∧ ch l j ≠ 10) : NoEnd l := fun j hj => by
  have := h j hj
  unfold BlockAt at this
  omega
theorem ascii_block {l : List UInt8} (h : ∀ j, j < l.length → BlockAt (ch l j)) : Ascii l := ascii_of fun i hi => by
  have := h i hi; unfold BlockAt at this; omega
theorem segs_byte {P : Nat} {ls : List (List UInt8)} (h : ∀ x ∈ ls, LineOk x) : ∀ a ∈ segs P ls, ∀ j, j < a.length → BlockAt (ch a j) ∧ ch a j ≠ 10 := fun a ha => by
  rcases List.mem_cons.1 ha with rfl | ha
  · intro j hj; simp at hj
  · obtain ⟨x, hx, rfl⟩ := List.mem_map.1 ha
    exact fun j hj => padded_byte (h x hx) j hj

theorem glue_byte : ∀ (sg : List (List UInt8)) (z : List UInt8), (∀ a ∈ sg, ∀ j, j < a.length → BlockAt (ch a j)) → (∀ j, j < z.length → BlockAt (ch z j)) → ∀ j, j < (glue sg z).length → BlockAt (ch (glue sg z) j)
  | [], _, _, hz => hz
  | a :: r, z, h, hz => fun j hj => by
    have ih := glue_byte r z (fun b hb => h b (List.mem_cons_of_mem _ hb)) hz
    change j < (a ++ ([10] ++ glue r z)).length at hj
    show BlockAt (ch (a ++ ([10] ++ glue r z)) j)
    simp only [List.length_append, List.length_cons, List.length_nil] at hj
    by_cases h1 : j < a.length
    · rw [ch_left h1]; exact h a (List.mem_cons_self ..) j h1
    · rw [ch_at (by omega)]
      by_cases h2 : j - a.length = 0
      · rw [h2, ch_left (by decide)]; exact .inl (by decide)
      · rw [ch_at (by simp; omega)]
        exact ih _ (by simp; omega)
theorem raw_byte {P : Nat} {ls : List (List UInt8)} (h : ∀ x ∈ ls, LineOk x) (j : Nat) (hj : j < (rawOf P ls).length) : BlockAt (ch (rawOf P ls) j) :=
  glue_byte _ _ (fun a ha j hj => (segs_byte h a ha j hj).1) (fun j hj => (blank_byte j hj).1) j hj

theorem raw_le {P : Nat} {ls : List (List UInt8)} (h : ∀ x ∈ ls, LineOk x) (h8 : ls.length ≤ 8) (hP : P ≤ 12) : (rawOf P ls).length ≤ 4000 := by
  have h1 := glue_le 212 (segs P ls) (blanks P) (fun a ha => by
    rcases List.mem_cons.1 ha with rfl | ha
    · simp
    · obtain ⟨x, hx, rfl⟩ := List.mem_map.1 ha
      have := (h x hx).1.1
      rw [List.length_append, blanks_len]
      omega)
  rw [blanks_len] at h1
  have h2 : (segs P ls).length = ls.length + 1 := by simp [segs]
  rw [h2] at h1
  show (glue _ _).length ≤ _
  omega

theorem lens_le {ls : List (List UInt8)} (h : ∀ x ∈ ls, LineOk x) : Lib.lens ls ≤ ls.length * 200 := by
  induction ls with
  | nil => simp [Lib.lens]
  | cons x r ih =>
    have h1 := ih (fun y hy => h y (List.mem_cons_of_mem _ hy))
    have h2 := (h x (List.mem_cons_self ..)).1.1
    simp only [Lib.lens, List.map_cons, List.sum_cons, List.length_cons] at h1 ⊢
    omega
theorem join_le {ls : List (List UInt8)} (h : ∀ x ∈ ls, LineOk x) (h0 : 0 < ls.length) (h8 : ls.length ≤ 8) : (Lib.join ls [10]).length ≤ 4000 := by
  match ls, h0 with
  | x :: r, _ =>
    rw [Lib.join_length]
    have := lens_le h
    simp only [List.length_cons, List.length_nil] at this h8 ⊢
    omega

/-- blockStringValue at the text between the quotation marks. -/
theorem value_law {P : Nat} {ls : List (List UInt8)} (h : ∀ x ∈ ls, LineOk x) (h0 : 0 < ls.length) (h8 : ls.length ≤ 8) (hP : P ≤ 12) (w : World) :
    Calls Tryz.prog 48 #[.string (ba (rawOf P ls))] w fun x w' => x = .returned (.string (ba (Lib.join ls [10]))) ∧ Below w.heap.size w w' := by
  have hl := raw_le h h8 hP
  have hcut : Cuts (ba (rawOf P ls)) 0 (rows P ls) := cuts_glue (segs P ls) [] (blanks P) (fun a ha => noEnd_of (segs_byte h a ha)) (noEnd_of (fun j hj => blank_byte j hj))
  have hL : ∀ w, Calls Tryz.prog 62 #[.string (ba (rawOf P ls))] w fun x W => ∃ g cap, x = .returned (.slice (some ⟨g, 0, none⟩) (ls.length + 2) cap) ∧ Rows_ w W g (ls.length + 2) cap (fun i => (rows P ls).getD i ⟨#[]⟩) := fun w => by
    refine (lines_any _ _ (by rw [ba_size]; omega) hcut (by rw [rows_len]; omega) w).mono ?_
    rintro x W ⟨A, c, rfl, hown, hb⟩
    obtain ⟨g, rfl, hR⟩ := Rows_.of_own (by rw [rows_len]; omega) hown hb
    rw [rows_len] at hR
    exact ⟨g, c, by rw [rows_len], hR⟩
  have hmem : ∀ i (hi : i < ls.length), LineOk ls[i] := fun i hi => h _ (List.getElem_mem hi)
  have hJ : ∀ w g cap, (∀ i, i < ls.length + 2 → w.cell? ⟨g, i, none⟩ = some (.string ((rows 0 ls).getD i ⟨#[]⟩))) → g < w.heap.size → ls.length ≤ cap → Calls Tryz.prog 65 #[.slice (some ⟨g, 1, none⟩) ls.length cap, .string ⟨#[10]⟩] w fun x w' => x = .returned (.string (ba (Lib.join ls [10]))) ∧ Below w.heap.size w w' := fun w g cap hc hg hcap => by
    have hx : (ls.map ba).map (·.data.toList) = ls := by
      rw [List.map_map]
      exact List.map_id ls
    have hj := Tryz.strings_Join g 1 cap (ls.map ba) ⟨#[10]⟩ w (fun j x hx => by
      simp only [List.getElem?_map] at hx
      by_cases hj : j < ls.length
      · rw [List.getElem?_eq_getElem hj] at hx
        simp only [Option.map_some, Option.some.injEq] at hx
        rw [Nat.add_comm 1 j, hc (j + 1) (by omega), rows_mid 0 ls j hj, ← hx]
        rfl
      · rw [List.getElem?_eq_none (by omega)] at hx
        simp at hx) hg (by rw [List.length_map]; omega) (by rw [List.length_map]; exact hcap) (by
      rw [hx]
      have := join_le h h0 h8
      show (Lib.join ls [10]).length ≤ _
      omega)
    rw [hx, List.length_map] at hj
    exact hj
  have hb0 : ∀ w, Calls Tryz.prog 64 #[.string ((rows 0 ls).getD 0 ⟨#[]⟩)] w fun x w' => x = .returned (.bool true) ∧ Below w.heap.size w w' := fun w => by
    rw [rows_zero]
    have := blank_any (ba []) (by rw [ba_size]; simp) (by rw [ba_list]; intro c hc; cases hc) 0 (by omega) (fun j hj => by omega) (by rw [ba_list, ch_end (Nat.le_refl 0)]; omega) w
    rwa [show decide (0 = (ba []).size) = true by rw [ba_size]; rfl] at this
  have hbm : ∀ i, 1 ≤ i → i ≤ ls.length → ∀ w, Calls Tryz.prog 64 #[.string ((rows 0 ls).getD i ⟨#[]⟩)] w fun x w' => x = .returned (.bool false) ∧ Below w.heap.size w w' := fun i h1 h2 w => by
    obtain ⟨i, rfl⟩ : ∃ m, i = m + 1 := ⟨i - 1, by omega⟩
    have hm := hmem i (by omega)
    rw [rows_mid 0 ls i (by omega)]
    show Calls Tryz.prog 64 #[.string (ba ls[i])] w _
    have hne := hm.1.2 0 hm.2.1
    have h32 := hm.2.2
    unfold PlainCh at hne
    have := blank_any (ba ls[i]) (by rw [ba_size]; have := hm.1.1; omega) (by rw [ba_list]; exact ascii_of fun j hj => (line_byte hm j hj).2.2.1) 0 (by omega) (fun j hj => by omega) (by rw [ba_list]; omega) w
    have hm2 := hm.2.1
    rwa [show decide (0 = (ba ls[i]).size) = false by rw [ba_size]; simp; omega] at this
  have hbz : ∀ w, Calls Tryz.prog 64 #[.string ((rows 0 ls).getD (ls.length + 1) ⟨#[]⟩)] w fun x w' => x = .returned (.bool true) ∧ Below w.heap.size w w' := fun w => by
    have e : (rows 0 ls).getD (ls.length + 1) ⟨#[]⟩ = (rows 0 ls).getD 0 ⟨#[]⟩ := by rw [rows_last, rows_zero]; rfl
    rw [e]
    exact hb0 w
  have lead : ∀ i, 1 ≤ i → i ≤ ls.length + 1 → ∀ w, Calls Tryz.prog 63 #[.string ((rows P ls).getD i ⟨#[]⟩)] w fun x w' => x = .returned (.int .i64 (P : Int)) ∧ Below w.heap.size w w' := fun i h1 h2 w => by
    by_cases hi : i ≤ ls.length
    · obtain ⟨i, rfl⟩ : ∃ m, i = m + 1 := ⟨i - 1, by omega⟩
      have hm := hmem i (by omega)
      rw [rows_mid P ls i (by omega)]
      have hne := hm.1.2 0 hm.2.1
      have h32 := hm.2.2
      have hlen := hm.1.1
      unfold PlainCh at hne
      refine lead_any (ba (blanks P ++ ls[i])) (by rw [ba_size, List.length_append, blanks_len]; omega) (by rw [ba_list]; exact ascii_block fun j hj => (padded_byte hm j hj).1) P (by rw [ba_size, List.length_append, blanks_len]; omega) (fun j hj => ?_) ?_ w
      · rw [ba_list, ch_left (by rw [blanks_len]; exact hj), blanks_ch P j hj]
      · rw [ba_list, ch_at (by rw [blanks_len]; omega), blanks_len, Nat.sub_self]
        omega
    · obtain rfl : i = ls.length + 1 := by omega
      rw [rows_last]
      refine lead_any (ba (blanks P)) (by rw [ba_size, blanks_len]; omega) (by rw [ba_list]; exact ascii_block fun j hj => (blank_byte j hj).1) P (by rw [ba_size, blanks_len]; omega) (fun j hj => ?_) ?_ w
      · rw [ba_list, blanks_ch P j hj]
      · rw [ba_list, ch_end (by rw [blanks_len]; omega)]
        omega
  by_cases hP0 : P = 0
  · subst hP0
    refine value_zero (ba (rawOf 0 ls)) ls.length h0 (by omega) (fun i => (rows 0 ls).getD i ⟨#[]⟩) _ hL (fun w => lead 1 (by omega) (by omega) w) ?_ hb0 hbm hbz hJ w
    show 0 < ((rows 0 ls).getD (0 + 1) ⟨#[]⟩).size
    rw [rows_mid 0 ls 0 h0, ba_size, List.length_append]
    have := (hmem 0 h0).2.1
    omega
  · refine value_pad (ba (rawOf P ls)) ls.length P h0 (by omega) (by omega) (by omega) (fun i => (rows P ls).getD i ⟨#[]⟩) (fun i => (rows 0 ls).getD i ⟨#[]⟩) _ hL lead ?_ ?_ ?_ ?_ ?_ hb0 hbm hbz hJ w
    · intro i h1 h2
      obtain ⟨i, rfl⟩ : ∃ m, i = m + 1 := ⟨i - 1, by omega⟩
      show P < ((rows P ls).getD (i + 1) ⟨#[]⟩).size ∧ ((rows P ls).getD (i + 1) ⟨#[]⟩).size ≤ 1000
      rw [rows_mid P ls i (by omega), ba_size, List.length_append, blanks_len]
      have h3 := (hmem i (by omega)).2.1
      have h4 := (hmem i (by omega)).1.1
      omega
    · show ((rows P ls).getD (ls.length + 1) ⟨#[]⟩).size = P
      rw [rows_last, ba_size, blanks_len]
    · show ((rows P ls).getD 0 ⟨#[]⟩).size = 0
      rw [rows_zero]
      rfl
    · intro i h1 h2
      show ((rows P ls).getD i ⟨#[]⟩).extract P ((rows P ls).getD i ⟨#[]⟩).size = (rows 0 ls).getD i ⟨#[]⟩
      by_cases hi : i ≤ ls.length
      · obtain ⟨i, rfl⟩ : ∃ m, i = m + 1 := ⟨i - 1, by omega⟩
        rw [rows_mid P ls i (by omega), rows_mid 0 ls i (by omega)]
        have := extract_tail (blanks P) ls[i]
        rw [blanks_len] at this
        exact this
      · obtain rfl : i = ls.length + 1 := by omega
        rw [rows_last, rows_last]
        have := extract_tail (blanks P) []
        rw [List.append_nil, blanks_len] at this
        exact this
    · show (rows P ls).getD 0 ⟨#[]⟩ = (rows 0 ls).getD 0 ⟨#[]⟩
      rw [rows_zero, rows_zero]

/-- The whole text. -/
def textOf (P : Nat) (ls : List (List UInt8)) : List UInt8 := [34, 34, 34] ++ (rawOf P ls ++ [34, 34, 34])
theorem text_len (P : Nat) (ls : List (List UInt8)) : (textOf P ls).length = (rawOf P ls).length + 6 := by simp [textOf]

theorem text_quote {P : Nat} {ls : List (List UInt8)} (k : Nat) (hk : k < 3) : ch (textOf P ls) k = 34 ∧ ch (textOf P ls) (3 + (rawOf P ls).length + k) = 34 := by
  constructor
  · unfold textOf
    rw [ch_left (by simp; omega)]
    match k, hk with
    | 0, _ => decide
    | 1, _ => decide
    | 2, _ => decide
  · unfold textOf
    rw [Nat.add_assoc, show 3 + ((rawOf P ls).length + k) = ([34, 34, 34] : List UInt8).length + ((rawOf P ls).length + k) by simp, ch_right, ch_right]
    match k, hk with
    | 0, _ => decide
    | 1, _ => decide
    | 2, _ => decide

theorem text_in {P : Nat} {ls : List (List UInt8)} (h : ∀ x ∈ ls, LineOk x) (j : Nat) (h1 : 3 ≤ j) (h2 : j < 3 + (rawOf P ls).length) : BlockAt (ch (textOf P ls) j) := by
  unfold textOf
  rw [show j = ([34, 34, 34] : List UInt8).length + (j - 3) by simp; omega, ch_right, ch_left (by omega)]
  exact raw_byte h _ (by omega)

theorem text_ascii {P : Nat} {ls : List (List UInt8)} (h : ∀ x ∈ ls, LineOk x) : Ascii (textOf P ls) :=
  Ascii.append (by intro c hc; revert c; decide) (Ascii.append (ascii_block (raw_byte h)) (by intro c hc; revert c; decide))

theorem block_lexed {P : Nat} {ls : List (List UInt8)} (h : ∀ x ∈ ls, LineOk x) (h0 : 0 < ls.length) (h8 : ls.length ≤ 8) (hP : P ≤ 12) :
    Lexed (textOf P ls) 0 [⟨19, 0, (textOf P ls).length, ba (Lib.join ls [10])⟩] := by
  have hl := raw_le h h8 hP
  have hL := text_len P ls
  have hend := ch_end (Nat.le_refl (textOf P ls).length)
  refine .tok 0 _ _ ?_ rfl (.eof _ _ _ (tokAt_end _ (Nat.le_refl _) (.stop _ (by rw [hend]; unfold White; omega) (by rw [hend]; omega))))
  intro W p b n cap hS hn
  have hlen := hS.body.len
  have q0 := (text_quote (P := P) (ls := ls) 0 (by omega)).1
  have q1 := (text_quote (P := P) (ls := ls) 1 (by omega)).1
  have q2 := (text_quote (P := P) (ls := ls) 2 (by omega)).1
  refine tok_block hS hn 0 0 (by omega) (skips_of q0 (by decide)) 19 0 (textOf P ls).length (ba (Lib.join ls [10])) false q0 q1 q2 (fun W' hS' => ?_)
  have hb := block_plain hS' (by omega) (3 + (rawOf P ls).length) (by omega) (by omega) (fun j h1 h2 => text_in h j h1 h2) (text_quote 0 (by omega)).2 (text_quote 1 (by omega)).2 (text_quote 2 (by omega)).2 (ba (Lib.join ls [10])) (fun W2 => by
    have e : sub (textOf P ls) 3 (3 + (rawOf P ls).length) = ba (rawOf P ls) := sub_mid [34, 34, 34] (rawOf P ls) [34, 34, 34]
    rw [e]
    exact value_law h h0 h8 hP W2)
  rwa [show 3 + (rawOf P ls).length + 3 = (textOf P ls).length by omega] at hb

end Go.Proofs.YthmdgegaejanaaaGreatDoor
