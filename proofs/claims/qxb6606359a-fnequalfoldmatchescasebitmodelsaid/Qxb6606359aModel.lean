/-
  Seat b6606359a: the contract of zzFoldModel.
-/
import Derived.Test.Qxb6606359aWays
import Derived.Test.Qxb6606359aBit
namespace Go.Proofs.Qxb6606359a
open Go.ChangeShapes Go.WideShapes Go.ChangeAt Go.RowKit
open Plain

theorem bits_or32 : ∀ c : UInt8, bits BinOp.or IntKind.u8 (c.toNat : Int) 32 = ((c ||| 32).toNat : Int) :=
  all_bytes _ (by decide +kernel)

theorem or_eq (c d : UInt8) : c ||| 32 = d ||| 32 ↔ ((c.toNat ||| 32 : Nat) : Int) = ((d.toNat ||| 32 : Nat) : Int) := by
  rw [← UInt8.toNat_inj, UInt8.toNat_or, UInt8.toNat_or]
  have e : (32 : UInt8).toNat = 32 := rfl
  rw [e]; omega
theorem or_rng (d : UInt8) : (97 ≤ d ||| 32 ∧ d ||| 32 ≤ 122) ↔ (97 ≤ ((d.toNat ||| 32 : Nat) : Int) ∧ ((d.toNat ||| 32 : Nat) : Int) ≤ 122) := by
  rw [UInt8.le_iff_toNat_le, UInt8.le_iff_toNat_le, UInt8.toNat_or]
  have e : (32 : UInt8).toNat = 32 := rfl
  have e1 : (97 : UInt8).toNat = 97 := rfl
  have e2 : (122 : UInt8).toNat = 122 := rfl
  rw [e, e1, e2]; omega

theorem grows {l m : List UInt8} {k : Nat} (h : ∀ j, j < k → lowB (l.getD j 0) = lowB (m.getD j 0)) (hk : lowB (l.getD k 0) = lowB (m.getD k 0)) : ∀ j, j < k + 1 → lowB (l.getD j 0) = lowB (m.getD j 0) := by
  intro j hj
  by_cases hjk : j < k
  · exact h j hjk
  · obtain rfl : j = k := by omega
    exact hk

theorem model_yes (c d : UInt8) (h1 : ((c.toNat ||| 32 : Nat) : Int) = ((d.toNat ||| 32 : Nat) : Int)) (h2 : 97 ≤ ((d.toNat ||| 32 : Nat) : Int) ∧ ((d.toNat ||| 32 : Nat) : Int) ≤ 122) : lowB c = lowB d := by
  have h := sameM_eq c d
  have e1 := (or_eq c d).2 h1
  have e2 := (or_rng d).2 h2
  have : sameM c d = true := by simp [sameM, e1, e2.1, e2.2]
  rw [this] at h
  exact of_decide_eq_true h.symm

theorem model_no (c d : UInt8) (hne : ((c.toNat : Int) == (d.toNat : Int)) = false) (h : ¬ (((c.toNat ||| 32 : Nat) : Int) = ((d.toNat ||| 32 : Nat) : Int) ∧ (97 ≤ ((d.toNat ||| 32 : Nat) : Int) ∧ ((d.toNat ||| 32 : Nat) : Int) ≤ 122))) : lowB c ≠ lowB d := by
  have hs := sameM_eq c d
  have hcd : c ≠ d := fun e => by subst e; simp at hne
  have : sameM c d = false := by
    rw [← Bool.not_eq_true]
    intro hm
    simp only [sameM, Bool.or_eq_true, beq_iff_eq, Bool.and_eq_true, decide_eq_true_eq] at hm
    rcases hm with hm | ⟨⟨e1, e2⟩, e3⟩
    · exact hcd hm
    · rw [e1] at e2 e3
      exact h ⟨(or_eq c d).1 e1, (or_rng d).1 ⟨e2, e3⟩⟩
  rw [this] at hs
  exact of_decide_eq_false hs.symm

set_option maxHeartbeats 400000 in
theorem model_any (a : Option Addr) (n cap : Nat) (l : List UInt8) (s : ByteArray) (w : World) (hb : Bs w a n l) (hn : n ≤ 1048576) (hs : s.size ≤ 1048576) :
    Calls Try.prog 9 #[.slice a n cap, .string s] w fun e w' => e = .returned (.bool (foldB l s.data.toList)) ∧ w = w' := by
  obtain ⟨HL, hcells⟩ := hb
  have HL : Hid (l.length = n) := HL
  have hbits := bits_or32
  by_cases hlen : n = s.size
  · subst hlen
    go_enter Try.func9, Try.ntmps9
    go_wp2
    go_loop [5] (fun i => ∃ k : Nat, k ≤ s.size ∧ i = .int .i64 k ∧ Hid (∀ j, j < k → lowB (l.getD j 0) = lowB (s.data.toList.getD j 0))) (fun i => s.size - (intOf i).toNat)
    case atStart => exact ⟨0, Nat.zero_le _, rfl, fun j hj => absurd hj (by omega)⟩
    case round =>
      obtain ⟨k, hk, rfl, HR⟩ := hrel
      by_cases hlt : k < s.size
      · obtain ⟨b, off, rfl, hbl, hc⟩ := hcells (by omega)
        have hck : w.cell? ⟨b, off + k, none⟩ = some (.int .u8 ((l.getD k 0).toNat : Int)) := hc k hlt
        obtain ⟨c, hcc⟩ : ∃ c, c = l.getD k 0 := ⟨_, rfl⟩
        rw [← hcc] at hck
        have HC : Hid (c = l.getD k 0) := hcc
        have hki : (k : Int) < (s.size : Int) := by omega
        clear hcc hc hcells
        go_wp2
        all_goals first
          | (have heq : ((c.toNat : Int) == (s[k].toNat : Int)) = true := by assumption
             have hlow : lowB (l.getD k 0) = lowB (s.data.toList.getD k 0) := by
               rw [getD_data s k hlt, ← HC.out]
               have : c = s[k] := UInt8.toNat_inj.1 (by simp at heq; omega)
               rw [this]
             go_round
             case rel => exact ⟨k + 1, by omega, by go_num, grows HR.out hlow⟩
             case measure => simp [intOf]; omega)
          | (have h1 : ((c.toNat ||| 32 : Nat) : Int) = ((s[k].toNat ||| 32 : Nat) : Int) := by assumption
             have h2 : 97 ≤ ((s[k].toNat ||| 32 : Nat) : Int) ∧ ((s[k].toNat ||| 32 : Nat) : Int) ≤ 122 := by assumption
             have hlow : lowB (l.getD k 0) = lowB (s.data.toList.getD k 0) := by
               rw [getD_data s k hlt, ← HC.out]
               exact model_yes c s[k] h1 h2
             go_round
             case rel => exact ⟨k + 1, by omega, by go_num, grows HR.out hlow⟩
             case measure => simp [intOf]; omega)
          | (have hne : ((c.toNat : Int) == (s[k].toNat : Int)) = false := by assumption
             have hno : lowB (l.getD k 0) ≠ lowB (s.data.toList.getD k 0) := by
               rw [getD_data s k hlt, ← HC.out]
               exact model_no c s[k] hne (by omega)
             go_ret
             exact ⟨ret_bool (a := false) (by rw [foldB_no k (by rw [HL.out]; exact hlt) (by simpa using hlt) hno]), rfl⟩)
      · have hks : k = s.size := by omega
        go_wp2
        go_ret
        exact ⟨ret_bool (a := true) (by rw [foldB_yes (by rw [HL.out]; simp) (fun j hj => HR.out j (by rw [HL.out] at hj; omega))]), rfl⟩
  · have hne : ((n : Int) == (s.size : Int)) = false := by simp; omega
    go_enter Try.func9, Try.ntmps9
    go_wp2
    go_ret
    exact ⟨ret_bool (a := false) (by rw [foldB_len]; rw [HL.out]; simpa using hlen), rfl⟩

set_option maxHeartbeats 400000 in
theorem bytes6_yes (a0 : Option Addr) (n0 c0 : Nat) (s : ByteArray) (w : World) (h : n0 + s.size ≤ 1048576) :
    Calls Try.prog 6 #[.slice a0 n0 c0, .string s] w fun e w' => e = .returned (.bool true) ∧ w = w' := by
  go_enter Try.func6, Try.ntmps6
  go_wp2
  go_ret
  exact ⟨rfl, rfl⟩

set_option maxHeartbeats 400000 in
theorem bytes6_no (a0 : Option Addr) (n0 c0 : Nat) (s : ByteArray) (w : World) (h : 1048576 < n0 + s.size) (h0 : n0 ≤ maxLen) (h2 : s.size ≤ maxLen) :
    Calls Try.prog 6 #[.slice a0 n0 c0, .string s] w fun e w' => e = .returned (.bool false) ∧ w = w' := by
  unfold maxLen at h0 h2
  by_cases k0 : n0 ≤ 1048576
  · by_cases k2 : s.size ≤ 1048576
    all_goals
      go_enter Try.func6, Try.ntmps6
      go_wp2
      go_ret
      exact ⟨rfl, rfl⟩
  · go_enter Try.func6, Try.ntmps6
    go_wp2
    go_ret
    exact ⟨rfl, rfl⟩

set_option maxHeartbeats 400000 in
theorem model_out (a0 : Option Addr) (n0 c0 : Nat) (s : ByteArray) (w : World) (h0 : n0 ≤ maxLen) (h2 : s.size ≤ maxLen) (h : 524288 < n0 ∨ 524288 < s.size) :
    Calls Try.prog 3 #[.slice a0 n0 c0, .string s] w fun e w' => e = .returned (.bool true) ∧ Below w.heap.size w w' := by
  by_cases hs : n0 + s.size ≤ 1048576
  · by_cases k0 : n0 ≤ 524288
    all_goals
      go_enter Try.func3, Try.ntmps3
      go_wp2_with (go_at_call 6; refine (bytes6_yes a0 n0 c0 s _ hs).mono ?_; rintro e w' ⟨rfl, rfl⟩)
      go_ret
      exact ⟨rfl, Below.refl _ _⟩
  · go_enter Try.func3, Try.ntmps3
    go_wp2_with (go_at_call 6; refine (bytes6_no a0 n0 c0 s _ (by omega) h0 h2).mono ?_; rintro e w' ⟨rfl, rfl⟩)
    go_ret
    exact ⟨rfl, Below.refl _ _⟩

set_option maxHeartbeats 800000 in
theorem model_in (a0 : Option Addr) (n0 c0 : Nat) (l0 : List UInt8) (s : ByteArray) (w : World) (hb0 : Hid (Bs w a0 n0 l0)) (h0 : n0 ≤ 524288) (h2 : s.size ≤ 524288) :
    Calls Try.prog 3 #[.slice a0 n0 c0, .string s] w fun e w' => e = .returned (.bool true) ∧ Below w.heap.size w w' := by
  obtain ⟨x, hx⟩ : ∃ x, foldB l0 s.data.toList = x := ⟨_, rfl⟩
  have HX : Hid (foldB l0 s.data.toList = x) := hx
  clear hx
  go_enter Try.func3, Try.ntmps3
  go_wp2_with (go_at_call 6; refine (bytes6_yes a0 n0 c0 s _ (by omega)).mono ?_; rintro e w' ⟨rfl, rfl⟩)
  refine (clone_h a0 n0 c0 l0 _ hb0.out (by omega)).mono ?_
  rintro e w1 ⟨p0, d0, rfl, HB0, HW1⟩
  go_wp2_with fail
  refine (zzEF p0 n0 d0 l0 s _ x HB0.out (by omega) (by omega) HX.out).mono ?_
  rintro e w2 ⟨rfl, HS2⟩
  go_wp2_with fail
  refine (model_any p0 n0 d0 l0 s _ (HB0.out.still HS2.out) (by omega) (by omega)).mono ?_
  rintro e w3 ⟨rfl, rfl⟩
  rw [HX.out]
  go_wp2
  go_ret
  exact ⟨ret_bool (by simp), HW1.out.trans HS2.out.below⟩

end Go.Proofs.Qxb6606359a
