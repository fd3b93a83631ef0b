/-
  Seat b6606435a: the walk of FnScanNumberBoundedAndSelfDelimiting.
-/
import Derived.Test.Qxb6606435aCopy
namespace Go.Proofs.Qxb6606435a
open Go.ChangeShapes Go.WideShapes Go.ChangeAt Go.RowKit
open Plain

set_option maxHeartbeats 400000 in
theorem bytes9_yes (a0 : Option Addr) (n0 c0 : Nat) (i : Int) (w : World) (h : n0 ≤ 1048576) :
    Calls Try.prog 9 #[.slice a0 n0 c0, .int .i64 i] w fun e w' => e = .returned (.bool true) ∧ w = w' := by
  go_enter Try.func9, Try.ntmps9
  go_wp2
  go_ret
  exact ⟨rfl, rfl⟩

set_option maxHeartbeats 400000 in
theorem bytes9_no (a0 : Option Addr) (n0 c0 : Nat) (i : Int) (w : World) (h : 1048576 < n0) (h0 : n0 ≤ maxLen) :
    Calls Try.prog 9 #[.slice a0 n0 c0, .int .i64 i] w fun e w' => e = .returned (.bool false) ∧ w = w' := by
  unfold maxLen at h0
  go_enter Try.func9, Try.ntmps9
  go_wp2
  go_ret
  exact ⟨rfl, rfl⟩

set_option maxHeartbeats 400000 in
theorem bound_out (a0 : Option Addr) (n0 c0 : Nat) (i : Int) (w : World) (h0 : n0 ≤ maxLen) (h : 1048576 < n0 ∨ i < 0 ∨ (n0 : Int) ≤ i) :
    Calls Try.prog 4 #[.slice a0 n0 c0, .int .i64 i] w fun e w' => e = .returned (.bool true) ∧ Below w.heap.size w w' := by
  by_cases hs : n0 ≤ 1048576
  · by_cases hi : i < 0
    all_goals
      go_enter Try.func4, Try.ntmps4
      go_wp2_with (go_at_call 9; refine (bytes9_yes a0 n0 c0 i _ hs).mono ?_; rintro e w' ⟨rfl, rfl⟩)
      go_ret
      exact ⟨rfl, Below.refl _ _⟩
  · go_enter Try.func4, Try.ntmps4
    go_wp2_with (go_at_call 9; refine (bytes9_no a0 n0 c0 i _ (by omega) h0).mono ?_; rintro e w' ⟨rfl, rfl⟩)
    go_ret
    exact ⟨rfl, Below.refl _ _⟩

/-- What a scan gives, and that it lies in its bounds. -/
theorem ends_of (L : List UInt8) (i : Nat) (hi : i ≤ L.length) : ∃ j ok, Ends L i j ok ∧ j ≤ L.length := by
  have h := run_le (L.drop i) 0
  simp at h
  exact ⟨i + (rn 0 (L.drop i)).1, (rn 0 (L.drop i)).2, ⟨by simp, by omega⟩, by omega⟩

/-- On success: the end is past i, the last byte taken is a digit, and scanning the text that ends there gives the same. -/
theorem ends_good {L : List UInt8} {i j : Nat} (h : Ends L i j true) : i < j ∧ dig (L.getD (j - 1) 0) = true ∧ Ends (L.take j) i j true := by
  obtain ⟨h1, h2⟩ := h
  have e1 : (rn 0 (L.drop i)).1 = j - i := by rw [h1]
  have e2 : (rn 0 (L.drop i)).2 = true := by rw [h1]
  have hp := run_pos e2
  have hl := run_last (L.drop i) 0 e2 hp
  have ht := run_take (L.drop i) 0 e2
  rw [e1] at hp hl ht
  refine ⟨by omega, ?_, ?_, h2⟩
  · rw [List.getD_eq_getElem?_getD, List.getElem?_drop] at hl
    rw [List.getD_eq_getElem?_getD]
    have e : i + (j - i - 1) = j - 1 := by omega
    rwa [e] at hl
  · rw [List.drop_take, ht]
    exact h1

theorem Bs.take {w : World} {a : Option Addr} {n j : Nat} {l : List UInt8} (h : Bs w a n l) (hj : j ≤ n) : Bs w a j (l.take j) := by
  refine ⟨by rw [List.length_take, h.1]; omega, fun h0 => ?_⟩
  obtain ⟨b, off, e, hlt, hc⟩ := h.2 (by omega)
  refine ⟨b, off, e, hlt, fun k hk => ?_⟩
  rw [hc k (by omega)]
  rw [List.getD_eq_getElem?_getD, List.getD_eq_getElem?_getD, List.getElem?_take, if_pos hk]

set_option maxHeartbeats 1600000 in
theorem bound_in (a : Option Addr) (n cap i : Nat) (L : List UInt8) (w : World) (HB : Hid (Bs w a n L)) (hn : n ≤ 1048576) (hi : i < n) :
    Calls Try.prog 4 #[.slice a n cap, .int .i64 i] w fun e w' => e = .returned (.bool true) ∧ Below w.heap.size w w' := by
  have hnil : ∀ (w : World) (a : Option Addr) (n c n' c' : Nat), (binOp .neq 22 (.slice a n c) (.slice none n' c')).run Try.prog w = .ok (.bool (!a.isNone)) w := fun w a n c n' c' => run_neq_slice_nil_any w _ _ a n c n' c' Try.underlying22
  obtain ⟨b0, o0, rfl, _⟩ := HB.out.at hi
  obtain ⟨i0, hti, hz0, hz1, hz2⟩ := info_parts Try.info5
  have hii : (i : Int) < (n : Int) := by omega
  go_enter Try.func4, Try.ntmps4
  go_wp2_with (first
    | (go_at_call 9; refine (bytes9_yes (some ⟨b0, o0, none⟩) n cap i _ hn).mono ?_; rintro e w' ⟨rfl, rfl⟩)
    | (at_make; refine wpList_make_full _ rfl (.tmp 28) (.tmp 28) 22 rfl w.heap.size 5 i0 (.int .u8 0) 1 Try.underlying22 hti hz0 hz1 .i64 .i64 _ _ n rfl rfl rfl rfl (by rw [hz2]; omega) (by unfold maxLen; omega) (Nat.le_refl _) ?_; intro w1 hown1 hg1; have hB1 : Below w.heap.size w w1 := (Below.refl _ _).grown hg1 (Nat.le_refl _) (fun k h => by cases h); obtain ⟨w2, hcp, HB2, HW2⟩ := copy_run (cap := cap) (HB.out.keep hB1) hown1 hB1; clear hown1 hg1 hB1))
  obtain ⟨j, ok, HJ, hjn⟩ : ∃ j ok, Hid (Ends L i j ok) ∧ j ≤ n := by
    obtain ⟨j, ok, h1, h2⟩ := ends_of L i (by rw [HB.out.1]; omega)
    exact ⟨j, ok, h1, by rw [HB.out.1] at h2; exact h2⟩
  have hij := HJ.out.2
  refine (zzScan_any (some ⟨w.heap.size, 0, none⟩) n n i L _ HB2 (by omega) hi j ok HJ).mono ?_
  rintro e w3 ⟨rfl, rfl⟩
  cases ok
  · go_wp2
    go_ret
    exact ⟨rfl, HW2.out⟩
  · obtain ⟨g1, g2, g3⟩ := ends_good HJ.out
    have HG : Hid (dig (L.getD (j - 1) 0) = true) := g2
    have HE : Hid (Ends (L.take j) i j true) := g3
    clear g2 g3 hcp
    obtain ⟨b3, o3, e3, hck⟩ := HB2.out.at (k := j - 1) (by omega)
    cases e3
    rw [Nat.zero_add] at hck
    obtain ⟨c, hc⟩ : ∃ c, c = L.getD (j - 1) 0 := ⟨_, rfl⟩
    rw [← hc] at hck
    have hdc : dig c = true := by rw [hc]; exact HG.out
    have hne : ((j : Int) == (i : Int)) = false := by simp; omega
    clear hc
    go_wp2_with (go_at_call 10; refine (isDigit_any c _).mono ?_; rintro e w' ⟨rfl, rfl⟩; rw [hdc])
    refine (zzScan_any (some ⟨w.heap.size, 0, none⟩) j n i (L.take j) _ (HB2.out.take hjn) (by omega) g1 j true HE).mono ?_
    rintro e w4 ⟨rfl, rfl⟩
    go_wp2
    go_ret
    exact ⟨ret_bool (by simp), HW2.out⟩

end Go.Proofs.Qxb6606435a
