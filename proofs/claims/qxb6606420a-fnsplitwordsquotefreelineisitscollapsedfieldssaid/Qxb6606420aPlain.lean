/-
  The plain law of seat b6606420a: words, collapsing, joining; no Go in sight.
-/
namespace Go.Proofs.Qxb6606420a.Plain

/-- White space: the six bytes. -/
def ws (c : UInt8) : Bool := c == 32 || c == 9 || c == 10 || c == 11 || c == 12 || c == 13
/-- A quote byte. -/
def qt (c : UInt8) : Bool := c == 34 || c == 39

/-- The words of a line without quotes; 'cur' is the word being read. -/
def spl : List UInt8 → List UInt8 → List (List UInt8)
  | cur, [] => if cur = [] then [] else [cur]
  | cur, c :: r => if ws c = true then (if cur = [] then spl [] r else cur :: spl [] r) else spl (cur ++ [c]) r

/-- White space collapsed. -/
def col : List UInt8 → Bool → List UInt8 → List UInt8
  | out, _, [] => out
  | out, gap, c :: r => if ws c = true then col out (gap || !decide (out = [])) r else if gap = true then col (out ++ [32] ++ [c]) false r else col (out ++ [c]) false r

/-- Words joined by one space. -/
def jo : List UInt8 → Bool → List (List UInt8) → List UInt8
  | acc, _, [] => acc
  | acc, fst, u :: r => if fst = true then jo (acc ++ u) false r else jo (acc ++ [32] ++ u) false r

theorem jo_spl : ∀ (L acc : List UInt8) (fst : Bool) (cur : List UInt8), (fst = true → acc = []) → (fst = false → acc ≠ []) →
    jo acc fst (spl cur L) = col (if cur = [] then acc else if fst = true then cur else acc ++ [32] ++ cur) (decide (cur = []) && !fst) L := by
  intro L
  induction L with
  | nil =>
    intro acc fst cur h1 h2
    by_cases hc : cur = []
    · simp [spl, hc, jo, col]
    · cases fst with
      | true => simp [spl, hc, jo, col, h1 rfl]
      | false => simp [spl, hc, jo, col]
  | cons c r ih =>
    intro acc fst cur h1 h2
    by_cases hw : ws c = true
    · by_cases hc : cur = []
      · subst hc
        have e := ih acc fst [] h1 h2
        cases fst with
        | true =>
          have ha := h1 rfl
          subst ha
          simp [spl, hw, col] at e ⊢
          exact e
        | false =>
          have ha := h2 rfl
          simp [spl, hw, col] at e ⊢
          exact e
      · cases fst with
        | true =>
          have ha := h1 rfl
          subst ha
          have e := ih cur false [] (by simp) (fun _ => hc)
          simp [spl, hw, hc, col, jo] at e ⊢
          exact e
        | false =>
          have e := ih (acc ++ [32] ++ cur) false [] (by simp) (by simp)
          simp [spl, hw, hc, col, jo] at e ⊢
          exact e
    · by_cases hc : cur = []
      · subst hc
        have e := ih acc fst [c] h1 h2
        cases fst with
        | true =>
          have ha := h1 rfl
          subst ha
          simp [spl, hw, col] at e ⊢
          exact e
        | false =>
          simp [spl, hw, col] at e ⊢
          exact e
      · have e := ih acc fst (cur ++ [c]) h1 h2
        cases fst with
        | true => simp [spl, hw, hc, col] at e ⊢; exact e
        | false => simp [spl, hw, hc, col] at e ⊢; exact e

/-- THE LAW. -/
theorem law (L : List UInt8) : jo [] true (spl [] L) = col [] false L := by
  have := jo_spl L [] true [] (by simp) (by simp)
  simpa using this

/-- Every word is there and free of white space. -/
theorem spl_good : ∀ (L cur : List UInt8), (∀ c ∈ cur, ws c = false) → ∀ u ∈ spl cur L, u ≠ [] ∧ ∀ c ∈ u, ws c = false := by
  intro L
  induction L with
  | nil =>
    intro cur h u hu
    by_cases hc : cur = []
    · simp [spl, hc] at hu
    · simp [spl, hc] at hu
      subst hu
      exact ⟨hc, h⟩
  | cons c r ih =>
    intro cur h u hu
    by_cases hw : ws c = true
    · by_cases hc : cur = []
      · simp only [spl, hw, hc, if_true] at hu
        exact ih [] (by simp) u hu
      · simp only [spl, hw, hc, if_true, if_false, List.mem_cons] at hu
        rcases hu with rfl | hu
        · exact ⟨hc, h⟩
        · exact ih [] (by simp) u hu
    · simp only [spl, hw] at hu
      exact ih (cur ++ [c]) (fun d hd => by
        rcases List.mem_append.1 hd with hd | hd
        · exact h d hd
        · simp at hd; subst hd; simpa using hw) u hu

theorem drop_cons (L : List UInt8) (k : Nat) (h : k < L.length) : L.drop k = L.getD k 0 :: L.drop (k + 1) := by
  rw [List.drop_eq_getElem_cons h, List.getD_eq_getElem?_getD, List.getElem?_eq_getElem h]; rfl

theorem spl_skip (L : List UInt8) (k : Nat) (h : k < L.length) (hw : ws (L.getD k 0) = true) : spl [] (L.drop k) = spl [] (L.drop (k + 1)) := by
  rw [drop_cons L k h]; generalize L.getD k 0 = c at hw; simp [spl, hw]
theorem spl_take (L cur : List UInt8) (k : Nat) (h : k < L.length) (hw : ws (L.getD k 0) = false) : spl cur (L.drop k) = spl (cur ++ [L.getD k 0]) (L.drop (k + 1)) := by
  rw [drop_cons L k h]; generalize L.getD k 0 = c at hw; simp [spl, hw]
theorem spl_end (L cur : List UInt8) (k : Nat) (hc : cur ≠ []) (h : L.length ≤ k ∨ ws (L.getD k 0) = true) : spl cur (L.drop k) = cur :: spl [] (L.drop k) := by
  by_cases hk : k < L.length
  · have hw : ws (L.getD k 0) = true := by rcases h with h | h; omega; exact h
    rw [drop_cons L k hk]; generalize L.getD k 0 = c at hw; simp [spl, hw, hc]
  · rw [List.drop_eq_nil_of_le (by omega)]; simp [spl, hc]
theorem spl_done (L : List UInt8) (k : Nat) (h : L.length ≤ k) : spl [] (L.drop k) = [] := by
  rw [List.drop_eq_nil_of_le h]; simp [spl]

theorem col_ws (L out : List UInt8) (gap : Bool) (k : Nat) (h : k < L.length) (hw : ws (L.getD k 0) = true) : col out gap (L.drop k) = col out (gap || !decide (out = [])) (L.drop (k + 1)) := by
  rw [drop_cons L k h]; generalize L.getD k 0 = c at hw; simp [col, hw]
theorem col_gap (L out : List UInt8) (k : Nat) (h : k < L.length) (hw : ws (L.getD k 0) = false) : col out true (L.drop k) = col (out ++ [32] ++ [L.getD k 0]) false (L.drop (k + 1)) := by
  rw [drop_cons L k h]; generalize L.getD k 0 = c at hw; simp [col, hw]
theorem col_no (L out : List UInt8) (k : Nat) (h : k < L.length) (hw : ws (L.getD k 0) = false) : col out false (L.drop k) = col (out ++ [L.getD k 0]) false (L.drop (k + 1)) := by
  rw [drop_cons L k h]; generalize L.getD k 0 = c at hw; simp [col, hw]
theorem col_done (L out : List UInt8) (gap : Bool) (k : Nat) (h : L.length ≤ k) : col out gap (L.drop k) = out := by
  rw [List.drop_eq_nil_of_le h]; simp [col]

/-- No more bytes are laid than two for each that is read. -/
theorem length_col : ∀ (L out : List UInt8) (gap : Bool), (col out gap L).length ≤ out.length + 2 * L.length := by
  intro L
  induction L with
  | nil => intro out gap; simp [col]
  | cons c r ih =>
    intro out gap
    unfold col
    split
    · have := ih out (gap || !decide (out = [])); simp at this ⊢; omega
    · split
      · have := ih (out ++ [32] ++ [c]) false; simp at this ⊢; omega
      · have := ih (out ++ [c]) false; simp at this ⊢; omega

theorem length_le_jo : ∀ (W : List (List UInt8)) (acc : List UInt8) (fst : Bool), acc.length ≤ (jo acc fst W).length := by
  intro W
  induction W with
  | nil => intro acc fst; simp [jo]
  | cons u r ih =>
    intro acc fst
    unfold jo
    split
    · have := ih (acc ++ u) false; simp at this ⊢; omega
    · have := ih (acc ++ [32] ++ u) false; simp at this ⊢; omega

/-- There are no more words than bytes. -/
theorem length_spl : ∀ (L cur : List UInt8), (spl cur L).length ≤ L.length + 1 := by
  intro L
  induction L with
  | nil => intro cur; unfold spl; split <;> simp
  | cons c r ih =>
    intro cur
    unfold spl
    split
    · split
      · have := ih []; simp at this ⊢; omega
      · have := ih []; simp at this ⊢; omega
    · have := ih (cur ++ [c]); simp at this ⊢; omega

end Go.Proofs.Qxb6606420a.Plain
