/-
  Seat b6606435a: the contract of scanNumber.
-/
import Derived.Test.Qxb6606435aParts
namespace Go.Proofs.Qxb6606435a
open Go.ChangeShapes Go.WideShapes Go.ChangeAt Go.RowKit
open Plain

/-- Where the integer part begins. -/
def Mid0 (L : List UInt8) (i0 k : Nat) : Prop := ∃ st, At L i0 st k ∧ acc st = false ∧ (k < L.length → stp st (L.getD k 0) = if L.getD k 0 = 48 then some 2 else if dig (L.getD k 0) = true then some 3 else none)
/-- Where the fraction may begin. -/
def Mid1 (L : List UInt8) (i0 k : Nat) : Prop := ∃ st, At L i0 st k ∧ acc st = true ∧ (k < L.length → stp st (L.getD k 0) = if L.getD k 0 = 46 then some 4 else if ex (L.getD k 0) = true then some 6 else none)
/-- Where the exponent may begin. -/
def Mid2 (L : List UInt8) (i0 k : Nat) : Prop := ∃ st, At L i0 st k ∧ acc st = true ∧ (k < L.length → stp st (L.getD k 0) = if ex (L.getD k 0) = true then some 6 else none)
/-- Where the exponent's digits begin. -/
def Mid3 (L : List UInt8) (i0 k : Nat) : Prop := ∃ st, At L i0 st k ∧ acc st = false ∧ (k < L.length → stp st (L.getD k 0) = if dig (L.getD k 0) = true then some 8 else none)

/-- What the scan comes to. -/
def Ends (L : List UInt8) (i k : Nat) (o : Bool) : Prop := rn 0 (L.drop i) = (k - i, o) ∧ i ≤ k
theorem Ends.one {L : List UInt8} {i j k : Nat} {o o' : Bool} (h : Ends L i j o) (g : Ends L i k o') : k = j ∧ o' = o := by
  have e := h.1.symm.trans g.1
  simp only [Prod.mk.injEq] at e
  have := h.2; have := g.2
  exact ⟨by omega, e.2.symm⟩
theorem ret_two {k j : Nat} {o ok : Bool} (h : k = j ∧ o = ok) : Ending.returned (.tuple #[.int .i64 (k : Int), .bool o]) = .returned (.tuple #[.int .i64 (j : Int), .bool ok]) := by rw [h.1, h.2]

theorem at_ends {L : List UInt8} {i st k : Nat} (h : At L i st k) (hs : k < L.length → stp st (L.getD k 0) = none) : Ends L i k (acc st) := ⟨h.stop hs, h.1⟩

theorem mid0_minus {L : List UInt8} {i : Nat} (hi : i < L.length) (h : L.getD i 0 = 45) : Mid0 L i (i + 1) :=
  ⟨1, (At.start L i (by omega)).next hi (by rw [h]; decide), by decide, fun _ => by simp [stp]⟩
theorem mid0_plain {L : List UInt8} {i : Nat} (hi : i < L.length) (h : L.getD i 0 ≠ 45) : Mid0 L i i :=
  ⟨0, At.start L i (by omega), by decide, fun _ => by generalize L.getD i 0 = c at h; simp [stp, h]⟩
theorem mid0_end {L : List UInt8} {i k : Nat} (h : Mid0 L i k) (hk : L.length ≤ k) : Ends L i k false := by
  obtain ⟨st, h1, h2, _⟩ := h
  have := at_ends h1 (fun hlt => by omega)
  rwa [h2] at this
theorem mid0_zero {L : List UInt8} {i k : Nat} (h : Mid0 L i k) (hk : k < L.length) (hc : L.getD k 0 = 48) : Mid1 L i (k + 1) := by
  obtain ⟨st, h1, h2, h3⟩ := h
  have e := h3 hk
  rw [if_pos hc] at e
  exact ⟨2, h1.next hk e, by decide, fun _ => by simp [stp]⟩
theorem mid0_digits {L : List UInt8} {i k : Nat} (h : Mid0 L i k) (hk : k < L.length) (hc : L.getD k 0 ≠ 48) (hd : dig (L.getD k 0) = true) : Mid1 L i (k + skipD (L.drop k)) := by
  obtain ⟨st, h1, h2, h3⟩ := h
  have e := h3 hk
  rw [if_neg hc, if_pos hd] at e
  refine ⟨3, h1.digits hk e hd loop3, by decide, fun hk' => ?_⟩
  have := skipD_stop _ L k rfl (by omega) hk'
  generalize L.getD (k + skipD (L.drop k)) 0 = c at this
  simp [stp, this]
theorem mid0_no {L : List UInt8} {i k : Nat} (h : Mid0 L i k) (hk : k < L.length) (hc : L.getD k 0 ≠ 48) (hd : dig (L.getD k 0) = false) : Ends L i k false := by
  obtain ⟨st, h1, h2, h3⟩ := h
  have e := h3 hk
  rw [if_neg hc, if_neg (by rw [hd]; decide)] at e
  have := at_ends h1 (fun _ => e)
  rwa [h2] at this

theorem mid1_dot_no {L : List UInt8} {i k : Nat} (h : Mid1 L i k) (hk : k < L.length) (hc : L.getD k 0 = 46) (h0 : skipD (L.drop (k + 1)) = 0) : Ends L i (k + 1) false := by
  obtain ⟨st, h1, h2, h3⟩ := h
  have e := h3 hk
  rw [if_pos hc] at e
  refine at_ends (st := 4) (h1.next hk e) (fun hk' => ?_)
  have := skipD_stop _ L (k + 1) rfl (by omega) (by rw [h0]; exact hk')
  rw [h0, Nat.add_zero] at this
  generalize L.getD (k + 1) 0 = c at this
  simp [stp, this]
theorem skipD_first {L : List UInt8} {k : Nat} (h : 0 < skipD (L.drop k)) : k < L.length ∧ dig (L.getD k 0) = true := by
  by_cases hk : k < L.length
  · refine ⟨hk, ?_⟩
    cases hd : dig (L.getD k 0) with
    | true => rfl
    | false => rw [skipD_no L k hk hd] at h; omega
  · rw [skipD_end L k (by omega)] at h; omega
theorem mid1_dot {L : List UInt8} {i k : Nat} (h : Mid1 L i k) (hk : k < L.length) (hc : L.getD k 0 = 46) (h0 : 0 < skipD (L.drop (k + 1))) : Mid2 L i (k + 1 + skipD (L.drop (k + 1))) := by
  obtain ⟨st, h1, h2, h3⟩ := h
  have e := h3 hk
  rw [if_pos hc] at e
  obtain ⟨g1, g2⟩ := skipD_first h0
  refine ⟨5, (h1.next hk e).digits g1 (by simp [stp] at g2 ⊢; exact g2) g2 loop5, by decide, fun hk' => ?_⟩
  have := skipD_stop _ L (k + 1) rfl (by omega) hk'
  generalize L.getD (k + 1 + skipD (L.drop (k + 1))) 0 = c at this
  simp [stp, this]
theorem mid1_none {L : List UInt8} {i k : Nat} (h : Mid1 L i k) (hc : k < L.length → L.getD k 0 ≠ 46) : Mid2 L i k := by
  obtain ⟨st, h1, h2, h3⟩ := h
  exact ⟨st, h1, h2, fun hk => by have e := h3 hk; rwa [if_neg (hc hk)] at e⟩

theorem mid2_end {L : List UInt8} {i k : Nat} (h : Mid2 L i k) (hc : k < L.length → ex (L.getD k 0) = false) : Ends L i k true := by
  obtain ⟨st, h1, h2, h3⟩ := h
  have := at_ends h1 (fun hk => by have e := h3 hk; rwa [if_neg (by rw [hc hk]; decide)] at e)
  rwa [h2] at this
theorem mid2_sign {L : List UInt8} {i k : Nat} (h : Mid2 L i k) (hk : k < L.length) (hc : ex (L.getD k 0) = true) (hk' : k + 1 < L.length) (hs : sg (L.getD (k + 1) 0) = true) : Mid3 L i (k + 1 + 1) := by
  obtain ⟨st, h1, h2, h3⟩ := h
  have e := h3 hk
  rw [if_pos hc] at e
  refine ⟨7, (h1.next hk e).next hk' ?_, by decide, fun _ => by simp [stp]⟩
  generalize L.getD (k + 1) 0 = c at hs
  simp [stp, hs]
theorem mid2_bare {L : List UInt8} {i k : Nat} (h : Mid2 L i k) (hk : k < L.length) (hc : ex (L.getD k 0) = true) (hs : k + 1 < L.length → sg (L.getD (k + 1) 0) = false) : Mid3 L i (k + 1) := by
  obtain ⟨st, h1, h2, h3⟩ := h
  have e := h3 hk
  rw [if_pos hc] at e
  refine ⟨6, h1.next hk e, by decide, fun hk' => ?_⟩
  have hs := hs hk'
  generalize L.getD (k + 1) 0 = c at hs
  simp [stp, hs]
theorem mid3_no {L : List UInt8} {i k : Nat} (h : Mid3 L i k) (h0 : skipD (L.drop k) = 0) : Ends L i k false := by
  obtain ⟨st, h1, h2, h3⟩ := h
  have := at_ends h1 (fun hk => by
    have e := h3 hk
    have := skipD_stop _ L k rfl (by omega) (by rw [h0]; exact hk)
    rw [h0, Nat.add_zero] at this
    rwa [if_neg (by rw [this]; decide)] at e)
  rwa [h2] at this
theorem mid3_yes {L : List UInt8} {i k : Nat} (h : Mid3 L i k) (h0 : 0 < skipD (L.drop k)) : Ends L i (k + skipD (L.drop k)) true := by
  obtain ⟨st, h1, h2, h3⟩ := h
  obtain ⟨g1, g2⟩ := skipD_first h0
  have e := h3 g1
  rw [if_pos g2] at e
  refine at_ends (st := 8) (h1.digits g1 e g2 loop8) (fun hk' => ?_)
  have := skipD_stop _ L k rfl (by omega) hk'
  generalize L.getD (k + skipD (L.drop k)) 0 = c at this
  simp [stp, this]

end Go.Proofs.Qxb6606435a
