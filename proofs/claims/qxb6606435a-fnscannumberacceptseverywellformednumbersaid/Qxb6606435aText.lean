/-
  Seat b6606435a: the plain law of FnScanNumberAcceptsEveryWellFormedNumber: the text that is built, and the automaton on it.
-/
import Derived.Test.Qxb6606435aPlain
namespace Go.Proofs.Qxb6606435a.Plain

/-- A run byte as a digit; the first digit of the integer part. -/
def dg (c : UInt8) : UInt8 := 48 + c % 10
def dg1 (c : UInt8) : UInt8 := 49 + c % 9
def sgnT (neg : Bool) : List UInt8 := if neg = true then [45] else []
def intT : List UInt8 → List UInt8
  | [] => [48]
  | c :: r => dg1 c :: r.map dg
def fracT (R : List UInt8) : List UInt8 := if R = [] then [] else 46 :: R.map dg
def eT (up : Bool) : UInt8 := if up = true then 69 else 101
def signT (e : Int) : List UInt8 := if e % 3 = 1 then [43] else if e % 3 = 2 then [45] else []
def expT (up : Bool) (e : Int) (R : List UInt8) : List UInt8 := if R = [] then [] else eT up :: (signT e ++ R.map dg)

theorem all_bytes (p : UInt8 → Prop) (h : ∀ n : Fin 256, p (UInt8.ofNat n.val)) (c : UInt8) : p c := by
  have := h ⟨c.toNat, c.toNat_lt⟩
  simpa using this
theorem dg_dig (c : UInt8) : dig (dg c) = true := all_bytes (fun c => dig (dg c) = true) (by decide +kernel) c
theorem dg_nat (c : UInt8) : (dg c).toNat = 48 + c.toNat % 10 := all_bytes (fun c => (dg c).toNat = 48 + c.toNat % 10) (by decide +kernel) c
theorem dg1_nat (c : UInt8) : (dg1 c).toNat = 49 + c.toNat % 9 := all_bytes (fun c => (dg1 c).toNat = 49 + c.toNat % 9) (by decide +kernel) c
theorem dg1_stp (c : UInt8) : stp 0 (dg1 c) = some 3 ∧ stp 1 (dg1 c) = some 3 := all_bytes (fun c => stp 0 (dg1 c) = some 3 ∧ stp 1 (dg1 c) = some 3) (by decide +kernel) c
theorem map_dg (R : List UInt8) : ∀ c ∈ R.map dg, dig c = true := by
  intro c hc
  obtain ⟨d, _, rfl⟩ := List.mem_map.1 hc
  exact dg_dig d

theorem goes_sgn (neg : Bool) : goes 0 (sgnT neg) = some (if neg = true then 1 else 0) := by cases neg <;> decide
/-- The state behind the integer part. -/
def stI (R : List UInt8) : Nat := if R = [] then 2 else 3
theorem goes_int (neg : Bool) (R : List UInt8) : goes 0 (sgnT neg ++ intT R) = some (stI R) := by
  rw [go_append _ _ _ _ (goes_sgn neg)]
  cases R with
  | nil => cases neg <;> decide
  | cons c r =>
    have h := dg1_stp c
    unfold intT goes
    cases neg with
    | true =>
      simp only [if_true, h.2]
      rw [go_digits 3 loop3 _ (map_dg r)]
      simp [stI]
    | false =>
      simp only [Bool.false_eq_true, if_false, h.1]
      rw [go_digits 3 loop3 _ (map_dg r)]
      simp [stI]
/-- The state behind the fraction. -/
def stF (R2 R3 : List UInt8) : Nat := if R3 = [] then stI R2 else 5
theorem goes_frac (neg : Bool) (R2 R3 : List UInt8) : goes 0 (sgnT neg ++ intT R2 ++ fracT R3) = some (stF R2 R3) := by
  rw [go_append _ _ _ _ (goes_int neg R2)]
  unfold fracT stF
  by_cases h3 : R3 = []
  · simp [h3, goes]
  · rw [if_neg h3, if_neg h3]
    have h46 : stp (stI R2) 46 = some 4 := by unfold stI; split <;> decide
    unfold goes
    rw [h46]
    exact go_digits_from 4 5 (fun c hc => by simp [stp, hc]) loop5 _ (by simpa using h3) (map_dg R3)
/-- The state behind all of it. -/
def stE (R2 R3 R4 : List UInt8) : Nat := if R4 = [] then stF R2 R3 else 8
theorem stF_ex (R2 R3 : List UInt8) (up : Bool) : stp (stF R2 R3) (eT up) = some 6 := by
  unfold stF stI
  split
  · split <;> cases up <;> decide
  · cases up <;> decide
theorem goes_all (neg up : Bool) (e : Int) (R2 R3 R4 : List UInt8) : goes 0 (sgnT neg ++ intT R2 ++ fracT R3 ++ expT up e R4) = some (stE R2 R3 R4) := by
  rw [go_append _ _ _ _ (goes_frac neg R2 R3)]
  unfold expT stE
  by_cases h4 : R4 = []
  · simp [h4, goes]
  · rw [if_neg h4, if_neg h4]
    have hne : R4.map dg ≠ [] := by simpa using h4
    unfold goes
    rw [stF_ex]
    simp only
    have h7 : ∀ c, dig c = true → stp 7 c = some 8 := fun c hc => by simp [stp, hc]
    have h6 : ∀ c, dig c = true → stp 6 c = some 8 := by
      intro c
      exact all_bytes (fun c => dig c = true → stp 6 c = some 8) (by decide +kernel) c
    unfold signT
    split
    · show goes 6 (43 :: R4.map dg) = some 8
      unfold goes
      have : stp 6 43 = some 7 := by decide
      rw [this]
      exact go_digits_from 7 8 h7 loop8 _ hne (map_dg R4)
    · split
      · show goes 6 (45 :: R4.map dg) = some 8
        unfold goes
        have : stp 6 45 = some 7 := by decide
        rw [this]
        exact go_digits_from 7 8 h7 loop8 _ hne (map_dg R4)
      · exact go_digits_from 6 8 h6 loop8 _ hne (map_dg R4)
theorem acc_stE (R2 R3 R4 : List UInt8) : acc (stE R2 R3 R4) = true := by
  unfold stE stF stI
  split
  · split
    · split <;> decide
    · decide
  · decide

/-- THE LAW: the text is scanned to its end. -/
theorem scan_text (P T : List UInt8) (st : Nat) (h : goes 0 T = some st) (ha : acc st = true) : rn 0 ((P ++ T).drop P.length) = (T.length, true) := by
  rw [List.drop_left]
  have := run_go T [] 0 st h
  rw [List.append_nil] at this
  rw [this]
  simp [rn, ha]
/-- .. and so it is when a byte follows that cannot continue it. -/
theorem scan_text_then (P T : List UInt8) (t : UInt8) (st : Nat) (h : goes 0 T = some st) (ha : acc st = true) (ht : stp st t = none) : rn 0 ((P ++ T ++ [t]).drop P.length) = (T.length, true) := by
  rw [List.append_assoc, List.drop_left]
  rw [run_go T [t] 0 st h]
  simp [rn, ha, ht]

/-- When the byte cannot continue the number. -/
theorem stops (R2 R3 R4 : List UInt8) (t : UInt8) (h1 : dig t = true → R2 = [] ∧ R3 = [] ∧ R4 = []) (h2 : R4 = [] → ex t = false) (h3 : R4 = [] → R3 = [] → t ≠ 46) : stp (stE R2 R3 R4) t = none := by
  unfold stE
  by_cases h4 : R4 = []
  · rw [if_pos h4]
    have e2 := h2 h4
    unfold stF
    by_cases h3' : R3 = []
    · rw [if_pos h3']
      have e3 := h3 h4 h3'
      unfold stI
      by_cases h2' : R2 = []
      · rw [if_pos h2']
        simp [stp, e2, e3]
      · rw [if_neg h2']
        have hd : dig t = false := by
          cases hd : dig t with
          | false => rfl
          | true => exact absurd (h1 hd).1 h2'
        simp [stp, e2, e3, hd]
    · rw [if_neg h3']
      have hd : dig t = false := by
        cases hd : dig t with
        | false => rfl
        | true => exact absurd (h1 hd).2.1 h3'
      simp [stp, e2, hd]
  · rw [if_neg h4]
    have hd : dig t = false := by
      cases hd : dig t with
      | false => rfl
      | true => exact absurd (h1 hd).2.2 h4
    simp [stp, hd]

end Go.Proofs.Qxb6606435a.Plain
