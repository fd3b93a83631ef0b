/-
  The plain laws of seat b6606447a: columns, blanks, skipping; no Go in sight.
-/
namespace Go.Proofs.Qxb6606447a.Plain

def blk (c : UInt8) : Bool := c == 32 || c == 9
/-- The column after the byte b that begins at column x. -/
def stB (x : Int) (b : UInt8) : Int := if b = 9 then (x / 4 + 1) * 4 else x + 1

theorem stB_gt (x : Int) (b : UInt8) (_h : 0 ≤ x) : x < stB x b ∧ stB x b ≤ x + 4 := by
  unfold stB; split <;> omega

/-- The column at which the blanks end. -/
def rEnd : Int → List UInt8 → Int
  | x, [] => x
  | x, b :: r => if blk b = true then rEnd (stB x b) r else x
/-- How many blanks lead. -/
def rLen : List UInt8 → Nat
  | [] => 0
  | b :: r => if blk b = true then rLen r + 1 else 0
/-- What indent counts. -/
def ind (col limit : Int) : Int → List UInt8 → Int
  | x, [] => x - col
  | x, b :: r => if x - col < limit then (if blk b = true then ind col limit (stB x b) r else x - col) else x - col
/-- What skip does: bytes read, the column of the next byte, the column reached. -/
def sk : Int → Int → Int → List UInt8 → Nat × Int × Int
  | a, c, _, [] => (0, a, c)
  | a, c, n, b :: r => if 0 < n then
      (if blk b = true then (if c + n < stB a b then (0, a, c + n) else ((sk (stB a b) (stB a b) (n - (stB a b - c)) r).1 + 1, (sk (stB a b) (stB a b) (n - (stB a b - c)) r).2)) else (0, a, c))
    else (0, a, c)
/-- The bytes whose end column does not pass 'reach'. -/
def mv (reach : Int) : Int → List UInt8 → Nat × Int
  | a, [] => (0, a)
  | a, b :: r => if blk b = true then (if reach < stB a b then (0, a) else ((mv reach (stB a b) r).1 + 1, (mv reach (stB a b) r).2)) else (0, a)
/-- The column that the model reaches. -/
def reachM (a c n : Int) (R : List UInt8) : Int :=
  c + (if rEnd a R - c < (if n < 0 then 0 else n) then rEnd a R - c else (if n < 0 then 0 else n))
def skM (a c n : Int) (R : List UInt8) : Nat × Int × Int := ((mv (reachM a c n R) a R).1, (mv (reachM a c n R) a R).2, reachM a c n R)

/-- A cursor's shape. -/
def Shape (a c : Int) (R : List UInt8) : Prop := 0 ≤ a ∧ (c = a ∨ (a < c ∧ ∃ r, R = 9 :: r ∧ c < stB a 9))

theorem rEnd_ge : ∀ (R : List UInt8) (x : Int), 0 ≤ x → x ≤ rEnd x R ∧ rEnd x R ≤ x + 4 * R.length
  | [], x, h => by simp [rEnd]
  | b :: r, x, h => by
    have hs := stB_gt x b h
    have ih := rEnd_ge r (stB x b) (by omega)
    unfold rEnd
    split <;> simp <;> omega

theorem rLen_le : ∀ (R : List UInt8), rLen R ≤ R.length
  | [] => by simp [rLen]
  | b :: r => by
    have := rLen_le r
    unfold rLen
    split <;> simp <;> omega

/-- indent against the run's end. -/
theorem ind_law (col limit : Int) : ∀ (R : List UInt8) (x : Int), 0 ≤ x → (ind col limit x R < limit ↔ rEnd x R - col < limit) ∧ (ind col limit x R < limit → ind col limit x R = rEnd x R - col)
  | [], x, h => by simp [ind, rEnd]
  | b :: r, x, h => by
    have hs := stB_gt x b h
    have ih := ind_law col limit r (stB x b) (by omega)
    have hg := rEnd_ge r (stB x b) (by omega)
    unfold ind rEnd
    by_cases hl : x - col < limit
    · by_cases hb : blk b = true
      · simp only [hl, hb, if_true]; exact ih
      · simp [hl, hb]
    · by_cases hb : blk b = true
      · simp only [hl, hb, if_true, if_false]
        exact ⟨⟨fun h' => h'.elim, fun h' => absurd h' (by omega)⟩, fun h' => h'.elim⟩
      · simp [hl, hb]
theorem ind_le (col limit : Int) : ∀ (R : List UInt8) (x : Int), 0 ≤ x → x - col ≤ ind col limit x R ∧ ind col limit x R ≤ x + 4 * R.length - col
  | [], x, h => by simp [ind]
  | b :: r, x, h => by
    have hs := stB_gt x b h
    have ih := ind_le col limit r (stB x b) (by omega)
    unfold ind
    split
    · split <;> simp <;> omega
    · simp; omega

/-- SKIP IS THE MODEL. -/
theorem sk_eq : ∀ (R : List UInt8) (a c n : Int), Shape a c R → sk a c n R = skM a c n R
  | [], a, c, n, h => by
    obtain ⟨h0, h1⟩ := h
    have hc : c = a := by
      rcases h1 with h1 | ⟨_, r, e, _⟩
      · exact h1
      · cases e
    subst hc
    have hr : reachM c c n [] = c := by unfold reachM rEnd; split <;> split at * <;> omega
    simp [sk, skM, mv, hr]
  | b :: r, a, c, n, h => by
    obtain ⟨h0, h1⟩ := h
    have hs := stB_gt a b h0
    by_cases hb : blk b = true
    · have hcn : c < stB a b := by
        rcases h1 with h1 | ⟨_, r', e, h2⟩
        · omega
        · injection e with e1 e2; rw [e1]; exact h2
      have hac : a ≤ c := by rcases h1 with h1 | ⟨h2, _⟩ <;> omega
      have hg := rEnd_ge r (stB a b) (by omega)
      have he : rEnd a (b :: r) = rEnd (stB a b) r := by simp [rEnd, hb]
      by_cases hn : 0 < n
      · by_cases hl : c + n < stB a b
        · have hr : reachM a c n (b :: r) = c + n := by
            unfold reachM
            rw [he, if_neg (show ¬ n < 0 by omega), if_neg (by omega)]
          simp [sk, skM, mv, hb, hn, hl, hr]
        · have ih := sk_eq r (stB a b) (stB a b) (n - (stB a b - c)) ⟨by omega, .inl rfl⟩
          have hr : reachM a c n (b :: r) = reachM (stB a b) (stB a b) (n - (stB a b - c)) r := by
            unfold reachM
            rw [he, if_neg (show ¬ n < 0 by omega), if_neg (show ¬ n - (stB a b - c) < 0 by omega)]
            by_cases hx : rEnd (stB a b) r - c < n
            · rw [if_pos hx, if_pos (by omega)]; omega
            · rw [if_neg hx, if_neg (by omega)]; omega
          have hge : ¬ reachM a c n (b :: r) < stB a b := by
            unfold reachM
            rw [he, if_neg (show ¬ n < 0 by omega)]
            split <;> omega
          have hm : mv (reachM a c n (b :: r)) a (b :: r) = ((mv (reachM a c n (b :: r)) (stB a b) r).1 + 1, (mv (reachM a c n (b :: r)) (stB a b) r).2) := by
            rw [mv, if_pos hb, if_neg hge]
          rw [sk, if_pos hn, if_pos hb, if_neg hl, ih]
          unfold skM
          rw [hm, hr]
      · have hr : reachM a c n (b :: r) = c := by
          unfold reachM
          rw [he]
          by_cases h0' : n < 0
          · rw [if_pos h0', if_neg (by omega)]; omega
          · rw [if_neg h0', if_neg (by omega)]; omega
        simp [sk, skM, mv, hb, hn, hr, hcn]
    · have hc : c = a := by
        rcases h1 with h1 | ⟨_, r', e, _⟩
        · exact h1
        · injection e with e1 e2
          rw [e1] at hb
          exact absurd (by decide) hb
      subst hc
      have hr : reachM c c n (b :: r) = c := by
        have he : rEnd c (b :: r) = c := by simp [rEnd, hb]
        unfold reachM
        rw [he]
        split <;> split at * <;> omega
      simp [sk, skM, mv, hb, hr]

theorem mv_all : ∀ (R : List UInt8) (a reach : Int), 0 ≤ a → rEnd a R ≤ reach → mv reach a R = (rLen R, rEnd a R)
  | [], a, reach, _, _ => by simp [mv, rLen, rEnd]
  | b :: r, a, reach, h0, h => by
    have hs := stB_gt a b h0
    by_cases hb : blk b = true
    · have he : rEnd a (b :: r) = rEnd (stB a b) r := by simp [rEnd, hb]
      rw [he] at h ⊢
      have hg := rEnd_ge r (stB a b) (by omega)
      have ih := mv_all r (stB a b) reach (by omega) h
      have hl : rLen (b :: r) = rLen r + 1 := by simp [rLen, hb]
      rw [mv, if_pos hb, if_neg (by omega), ih, hl]
    · simp [mv, rLen, rEnd, hb]

theorem shape_le {a c : Int} {R : List UInt8} (h : Shape a c R) : c ≤ rEnd a R := by
  obtain ⟨h0, h1⟩ := h
  rcases h1 with h1 | ⟨_, r, e, h2⟩
  · have := (rEnd_ge R a h0).1; omega
  · subst e
    have he : rEnd a (9 :: r) = rEnd (stB a 9) r := by simp [rEnd, blk]
    have hs := stB_gt a 9 h0
    have := (rEnd_ge r (stB a 9) (by omega)).1
    omega

/-- Skipping all the blanks. -/
theorem sk_all {a c : Int} {R : List UInt8} (h : Shape a c R) : sk a c (rEnd a R - c) R = (rLen R, rEnd a R, rEnd a R) := by
  rw [sk_eq R a c _ h]
  have hl := shape_le h
  have hr : reachM a c (rEnd a R - c) R = rEnd a R := by
    unfold reachM
    rw [if_neg (show ¬ rEnd a R - c < 0 by omega), if_neg (by omega)]
    omega
  unfold skM
  rw [hr, mv_all R a _ h.1 (by omega)]

theorem sk_le : ∀ (R : List UInt8) (a c n : Int), (sk a c n R).1 ≤ R.length
  | [], a, c, n => by simp [sk]
  | b :: r, a, c, n => by
    have := sk_le r (stB a b) (stB a b) (n - (stB a b - c))
    unfold sk
    split
    · split
      · split <;> simp <;> omega
      · simp
    · simp

theorem drop_cons (L : List UInt8) (k : Nat) (h : k < L.length) : L.drop k = L.getD k 0 :: L.drop (k + 1) := by
  rw [List.drop_eq_getElem_cons h, List.getD_eq_getElem?_getD, List.getElem?_eq_getElem h]; rfl
theorem drop_nil (L : List UInt8) (k : Nat) (h : ¬ k < L.length) : L.drop k = [] := List.drop_eq_nil_of_le (by omega)

/-- Where the blanks end the next byte is none. -/
theorem rLen_stop : ∀ (R : List UInt8), rLen R < R.length → blk (R.getD (rLen R) 0) = false
  | [], h => by simp at h
  | b :: r, h => by
    by_cases hb : blk b = true
    · have hl : rLen (b :: r) = rLen r + 1 := by simp [rLen, hb]
      rw [hl] at h ⊢
      have := rLen_stop r (by simpa using h)
      simpa using this
    · have hl : rLen (b :: r) = 0 := by simp [rLen, hb]
      rw [hl]
      simpa using hb

end Go.Proofs.Qxb6606447a.Plain
