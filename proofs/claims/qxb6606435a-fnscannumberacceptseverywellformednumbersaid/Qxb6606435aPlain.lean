/-
  The plain laws of seat b6606435a: the number automaton on bytes; no Go in sight.
-/
namespace Go.Proofs.Qxb6606435a.Plain

def dig (c : UInt8) : Bool := decide (48 ≤ c) && decide (c ≤ 57)
def ex (c : UInt8) : Bool := c == 101 || c == 69
def sg (c : UInt8) : Bool := c == 43 || c == 45

/-- One transition. -/
def stp (st : Nat) (c : UInt8) : Option Nat :=
  if st = 0 then (if c = 45 then some 1 else if c = 48 then some 2 else if dig c = true then some 3 else none)
  else if st = 1 then (if c = 48 then some 2 else if dig c = true then some 3 else none)
  else if st = 2 then (if c = 46 then some 4 else if ex c = true then some 6 else none)
  else if st = 3 then (if dig c = true then some 3 else if c = 46 then some 4 else if ex c = true then some 6 else none)
  else if st = 4 then (if dig c = true then some 5 else none)
  else if st = 5 then (if dig c = true then some 5 else if ex c = true then some 6 else none)
  else if st = 6 then (if sg c = true then some 7 else if dig c = true then some 8 else none)
  else (if dig c = true then some 8 else none)

/-- The accepting states. -/
def acc (st : Nat) : Bool := st == 2 || st == 3 || st == 5 || st == 8

/-- How many bytes are taken, and whether it stopped in an accepting state. -/
def rn : Nat → List UInt8 → Nat × Bool
  | st, [] => (0, acc st)
  | st, c :: r => match stp st c with
    | none => (0, acc st)
    | some s => ((rn s r).1 + 1, (rn s r).2)

theorem run_some {st s : Nat} {c : UInt8} {r : List UInt8} (h : stp st c = some s) : rn st (c :: r) = ((rn s r).1 + 1, (rn s r).2) := by simp [rn, h]
theorem run_non {st : Nat} {c : UInt8} {r : List UInt8} (h : stp st c = none) : rn st (c :: r) = (0, acc st) := by simp [rn, h]

theorem run_le : ∀ (r : List UInt8) (st : Nat), (rn st r).1 ≤ r.length
  | [], st => by simp [rn]
  | c :: r, st => by
    cases hs : stp st c with
    | none => rw [run_non hs]; simp
    | some s => rw [run_some hs]; have := run_le r s; simp; omega

/-- A number that is scanned is scanned in the text that ends with it, too. -/
theorem run_take : ∀ (r : List UInt8) (st : Nat), (rn st r).2 = true → rn st (r.take (rn st r).1) = rn st r
  | [], st, _ => by simp [rn]
  | c :: r, st, h => by
    cases hs : stp st c with
    | none =>
      rw [run_non hs] at h ⊢
      simp only [List.take_zero]
      rfl
    | some s =>
      rw [run_some hs] at h ⊢
      have ih := run_take r s h
      simp only [List.take_succ_cons]
      rw [run_some hs, ih]

/-- An accepting state is entered by a digit alone. -/
theorem acc_dig {st s : Nat} {c : UInt8} (h : stp st c = some s) (ha : acc s = true) : dig c = true := by
  cases hd : dig c with
  | true => rfl
  | false =>
    have h48 : c ≠ 48 := fun e => by subst e; exact absurd hd (by decide)
    exfalso
    unfold stp at h
    simp only [hd, h48, if_false, Bool.false_eq_true] at h
    repeat' split at h
    all_goals (cases h; try exact absurd ha (by decide))

/-- The last byte taken is a digit. -/
theorem run_last : ∀ (r : List UInt8) (st : Nat), (rn st r).2 = true → 0 < (rn st r).1 → dig (r.getD ((rn st r).1 - 1) 0) = true
  | [], st, _, h => by simp [rn] at h
  | c :: r, st, h, hp => by
    cases hs : stp st c with
    | none => rw [run_non hs] at hp; simp at hp
    | some s =>
      rw [run_some hs] at h hp ⊢
      simp only at h hp ⊢
      by_cases h0 : (rn s r).1 = 0
      · simp only [h0]
        have ha : acc s = true := by
          cases r with
          | nil => simpa [rn] using h
          | cons d r' =>
            unfold rn at h h0
            cases hs' : stp s d with
            | none => simpa [hs'] using h
            | some s' => simp [hs'] at h0
        simpa using acc_dig hs ha
      · have ih := run_last r s h (by omega)
        have e : (rn s r).1 + 1 - 1 = ((rn s r).1 - 1) + 1 := by omega
        rw [e]
        simpa using ih

theorem run_pos {r : List UInt8} (h : (rn 0 r).2 = true) : 0 < (rn 0 r).1 := by
  cases r with
  | nil => simp [rn, acc] at h
  | cons c r =>
    unfold rn at h ⊢
    cases hs : stp 0 c with
    | none => simp [hs, acc] at h
    | some s => simp

/-- How many digits lead. -/
def skipD : List UInt8 → Nat
  | [] => 0
  | c :: r => if dig c = true then skipD r + 1 else 0

theorem skipD_le : ∀ (r : List UInt8), skipD r ≤ r.length
  | [] => by simp [skipD]
  | c :: r => by
    unfold skipD
    have := skipD_le r
    split <;> simp; omega

theorem drop_cons (L : List UInt8) (k : Nat) (h : k < L.length) : L.drop k = L.getD k 0 :: L.drop (k + 1) := by
  rw [List.drop_eq_getElem_cons h, List.getD_eq_getElem?_getD, List.getElem?_eq_getElem h]; rfl

theorem skipD_yes (L : List UInt8) (k : Nat) (h : k < L.length) (hd : dig (L.getD k 0) = true) : skipD (L.drop k) = skipD (L.drop (k + 1)) + 1 := by
  rw [drop_cons L k h]; generalize L.getD k 0 = c at hd; simp [skipD, hd]
theorem skipD_no (L : List UInt8) (k : Nat) (h : k < L.length) (hd : dig (L.getD k 0) = false) : skipD (L.drop k) = 0 := by
  rw [drop_cons L k h]; generalize L.getD k 0 = c at hd; simp [skipD, hd]
theorem skipD_end (L : List UInt8) (k : Nat) (h : L.length ≤ k) : skipD (L.drop k) = 0 := by
  rw [List.drop_eq_nil_of_le h]; rfl
theorem skipD_bound (L : List UInt8) (k : Nat) (h : k ≤ L.length) : k + skipD (L.drop k) ≤ L.length := by
  have := skipD_le (L.drop k)
  simp at this; omega

/-- Behind the digits there is none. -/
theorem skipD_stop : ∀ (m : Nat) (L : List UInt8) (k : Nat), m = L.length - k → k ≤ L.length → k + skipD (L.drop k) < L.length → dig (L.getD (k + skipD (L.drop k)) 0) = false := by
  intro m
  induction m with
  | zero =>
    intro L k hm hk h
    omega
  | succ m ih =>
    intro L k hm hk h
    have hk' : k < L.length := by omega
    cases hd : dig (L.getD k 0) with
    | false => rw [skipD_no L k hk' hd, Nat.add_zero]; exact hd
    | true =>
      have e := skipD_yes L k hk' hd
      have := ih L (k + 1) (by omega) (by omega) (by rw [e] at h; omega)
      rw [e]
      have e2 : k + (skipD (L.drop (k + 1)) + 1) = k + 1 + skipD (L.drop (k + 1)) := by omega
      rw [e2]; exact this

theorem run_step (L : List UInt8) (st s k : Nat) (h : k < L.length) (hs : stp st (L.getD k 0) = some s) : rn st (L.drop k) = ((rn s (L.drop (k + 1))).1 + 1, (rn s (L.drop (k + 1))).2) := by
  rw [drop_cons L k h]; generalize L.getD k 0 = c at hs; simp [rn, hs]
theorem run_none (L : List UInt8) (st k : Nat) (hs : k < L.length → stp st (L.getD k 0) = none) : rn st (L.drop k) = (0, acc st) := by
  by_cases h : k < L.length
  · have hs := hs h
    rw [drop_cons L k h]; generalize L.getD k 0 = c at hs; simp [rn, hs]
  · rw [List.drop_eq_nil_of_le (by omega)]; rfl

/-- Digits are taken one by one from a state that they lead back to. -/
theorem run_loop (s : Nat) (hs : ∀ c, dig c = true → stp s c = some s) : ∀ (m : Nat) (L : List UInt8) (k : Nat), m = L.length - k → k ≤ L.length →
    rn s (L.drop k) = (skipD (L.drop k) + (rn s (L.drop (k + skipD (L.drop k)))).1, (rn s (L.drop (k + skipD (L.drop k)))).2) := by
  intro m
  induction m with
  | zero =>
    intro L k hm hk
    rw [skipD_end L k (by omega)]; simp
  | succ m ih =>
    intro L k hm hk
    have hk' : k < L.length := by omega
    cases hd : dig (L.getD k 0) with
    | false => rw [skipD_no L k hk' hd]; simp
    | true =>
      have e := skipD_yes L k hk' hd
      have i := ih L (k + 1) (by omega) (by omega)
      rw [run_step L s s k hk' (hs _ hd), e]
      have e2 : k + (skipD (L.drop (k + 1)) + 1) = k + 1 + skipD (L.drop (k + 1)) := by omega
      rw [e2, i]
      simp only [Prod.mk.injEq, and_true]
      omega

/-- The first digit leads to that state, the others follow. -/
theorem run_digits (L : List UInt8) (st s k : Nat) (hk : k < L.length) (h1 : stp st (L.getD k 0) = some s) (hd : dig (L.getD k 0) = true) (hs : ∀ c, dig c = true → stp s c = some s) :
    rn st (L.drop k) = (skipD (L.drop k) + (rn s (L.drop (k + skipD (L.drop k)))).1, (rn s (L.drop (k + skipD (L.drop k)))).2) := by
  rw [run_step L st s k hk h1, skipD_yes L k hk hd, run_loop s hs _ L (k + 1) rfl (by omega)]
  have e2 : k + (skipD (L.drop (k + 1)) + 1) = k + 1 + skipD (L.drop (k + 1)) := by omega
  rw [e2]
  simp only [Prod.mk.injEq, and_true]
  omega

theorem loop3 : ∀ c, dig c = true → stp 3 c = some 3 := by intro c h; simp [stp, h]
theorem loop5 : ∀ c, dig c = true → stp 5 c = some 5 := by intro c h; simp [stp, h]
theorem loop8 : ∀ c, dig c = true → stp 8 c = some 8 := by intro c h; simp [stp, h]

/-- What the automaton from 'i0' on comes to, told from state 'st' at 'k' on. -/
def At (L : List UInt8) (i0 st k : Nat) : Prop := i0 ≤ k ∧ k ≤ L.length ∧ rn 0 (L.drop i0) = (k - i0 + (rn st (L.drop k)).1, (rn st (L.drop k)).2)

theorem At.start (L : List UInt8) (i : Nat) (h : i ≤ L.length) : At L i 0 i := ⟨Nat.le_refl _, h, by simp⟩
theorem At.next {L : List UInt8} {i0 st k s : Nat} (h : At L i0 st k) (hk : k < L.length) (hs : stp st (L.getD k 0) = some s) : At L i0 s (k + 1) := by
  obtain ⟨h1, h2, h3⟩ := h
  refine ⟨by omega, by omega, ?_⟩
  rw [h3, run_step L st s k hk hs]
  simp only [Prod.mk.injEq, and_true]
  omega
theorem At.digits {L : List UInt8} {i0 st k s : Nat} (h : At L i0 st k) (hk : k < L.length) (h1 : stp st (L.getD k 0) = some s) (hd : dig (L.getD k 0) = true) (hs : ∀ c, dig c = true → stp s c = some s) : At L i0 s (k + skipD (L.drop k)) := by
  obtain ⟨g1, g2, g3⟩ := h
  refine ⟨by omega, skipD_bound L k g2, ?_⟩
  rw [g3, run_digits L st s k hk h1 hd hs]
  simp only [Prod.mk.injEq, and_true]
  omega
theorem At.stop {L : List UInt8} {i0 st k : Nat} (h : At L i0 st k) (hs : k < L.length → stp st (L.getD k 0) = none) : rn 0 (L.drop i0) = (k - i0, acc st) := by
  rw [h.2.2, run_none L st k hs]
  simp

/-- All bytes of 'x' are taken, from state 'st' to the state that comes out. -/
def goes : Nat → List UInt8 → Option Nat
  | st, [] => some st
  | st, c :: r => match stp st c with
    | none => none
    | some s => goes s r

theorem run_go : ∀ (x y : List UInt8) (st s : Nat), goes st x = some s → rn st (x ++ y) = (x.length + (rn s y).1, (rn s y).2)
  | [], y, st, s, h => by simp [goes] at h; subst h; simp
  | c :: x, y, st, s, h => by
    unfold goes at h
    cases hs : stp st c with
    | none => simp [hs] at h
    | some s' =>
      simp only [hs] at h
      have ih := run_go x y s' s h
      simp only [List.cons_append, rn, hs, ih, List.length_cons, Prod.mk.injEq, and_true]
      omega

theorem go_append : ∀ (x y : List UInt8) (st s : Nat), goes st x = some s → goes st (x ++ y) = goes s y
  | [], y, st, s, h => by simp [goes] at h; subst h; simp
  | c :: x, y, st, s, h => by
    unfold goes at h
    cases hs : stp st c with
    | none => simp [hs] at h
    | some s' =>
      simp only [hs] at h
      simp only [List.cons_append, goes, hs]
      exact go_append x y s' s h

theorem go_digits (s : Nat) (hs : ∀ c, dig c = true → stp s c = some s) : ∀ (x : List UInt8), (∀ c ∈ x, dig c = true) → goes s x = some s
  | [], _ => rfl
  | c :: x, h => by
    unfold goes
    rw [hs c (h c (by simp))]
    exact go_digits s hs x (fun d hd => h d (by simp [hd]))

theorem go_digits_from (st s : Nat) (h1 : ∀ c, dig c = true → stp st c = some s) (hs : ∀ c, dig c = true → stp s c = some s) (x : List UInt8) (hx : x ≠ []) (h : ∀ c ∈ x, dig c = true) : goes st x = some s := by
  cases x with
  | nil => exact absurd rfl hx
  | cons c x =>
    unfold goes
    rw [h1 c (h c (by simp))]
    exact go_digits s hs x (fun d hd => h d (by simp [hd]))

end Go.Proofs.Qxb6606435a.Plain
