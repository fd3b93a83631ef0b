/-
  Seat b6606435a: the walk of FnScanNumberMatchesGrammarAutomaton.
-/
import Derived.Test.Qxb6606435aCopy
import Derived.Test.Qxb6606435aModel
namespace Go.Proofs.Qxb6606435a
open Go.ChangeShapes Go.WideShapes Go.ChangeAt Go.RowKit
open Plain

set_option maxHeartbeats 400000 in
theorem bytes6_yes (a0 : Option Addr) (n0 c0 : Nat) (i : Int) (w : World) (h : n0 ≤ 1048576) :
    Calls Try.prog 6 #[.slice a0 n0 c0, .int .i64 i] w fun e w' => e = .returned (.bool true) ∧ w = w' := by
  go_enter Try.func6, Try.ntmps6
  go_wp2
  go_ret
  exact ⟨rfl, rfl⟩

set_option maxHeartbeats 400000 in
theorem bytes6_no (a0 : Option Addr) (n0 c0 : Nat) (i : Int) (w : World) (h : 1048576 < n0) (h0 : n0 ≤ maxLen) :
    Calls Try.prog 6 #[.slice a0 n0 c0, .int .i64 i] w fun e w' => e = .returned (.bool false) ∧ w = w' := by
  unfold maxLen at h0
  go_enter Try.func6, Try.ntmps6
  go_wp2
  go_ret
  exact ⟨rfl, rfl⟩

set_option maxHeartbeats 400000 in
theorem autom_out (a0 : Option Addr) (n0 c0 : Nat) (i : Int) (w : World) (h0 : n0 ≤ maxLen) (h : 1048576 < n0 ∨ i < 0 ∨ (n0 : Int) ≤ i) :
    Calls Try.prog 3 #[.slice a0 n0 c0, .int .i64 i] w fun e w' => e = .returned (.bool true) ∧ Below w.heap.size w w' := by
  by_cases hs : n0 ≤ 1048576
  · by_cases hi : i < 0
    all_goals
      go_enter Try.func3, Try.ntmps3
      go_wp2_with (go_at_call 6; refine (bytes6_yes a0 n0 c0 i _ hs).mono ?_; rintro e w' ⟨rfl, rfl⟩)
      go_ret
      exact ⟨rfl, Below.refl _ _⟩
  · go_enter Try.func3, Try.ntmps3
    go_wp2_with (go_at_call 6; refine (bytes6_no a0 n0 c0 i _ (by omega) h0).mono ?_; rintro e w' ⟨rfl, rfl⟩)
    go_ret
    exact ⟨rfl, Below.refl _ _⟩

/-- What a scan gives, and that it lies in its bounds. -/
theorem ends_some (L : List UInt8) (i : Nat) (hi : i ≤ L.length) : ∃ j ok, Ends L i j ok ∧ j ≤ L.length := by
  have h := run_le (L.drop i) 0
  simp at h
  exact ⟨i + (rn 0 (L.drop i)).1, (rn 0 (L.drop i)).2, ⟨by simp, by omega⟩, by omega⟩

set_option maxHeartbeats 1600000 in
theorem autom_in (a : Option Addr) (n cap i : Nat) (L : List UInt8) (w : World) (HB : Hid (Bs w a n L)) (hn : n ≤ 1048576) (hi : i < n) :
    Calls Try.prog 3 #[.slice a n cap, .int .i64 i] w fun e w' => e = .returned (.bool true) ∧ Below w.heap.size w w' := by
  have hnil : ∀ (w : World) (a : Option Addr) (n c n' c' : Nat), (binOp .neq 22 (.slice a n c) (.slice none n' c')).run Try.prog w = .ok (.bool (!a.isNone)) w := fun w a n c n' c' => run_neq_slice_nil_any w _ _ a n c n' c' Try.underlying22
  obtain ⟨b0, o0, rfl, _⟩ := HB.out.at hi
  obtain ⟨i0, hti, hz0, hz1, hz2⟩ := info_parts Try.info5
  have hii : (i : Int) < (n : Int) := by omega
  go_enter Try.func3, Try.ntmps3
  go_wp2_with (first
    | (go_at_call 6; refine (bytes6_yes (some ⟨b0, o0, none⟩) n cap i _ hn).mono ?_; rintro e w' ⟨rfl, rfl⟩)
    | (at_make; refine wpList_make_full _ rfl (.tmp 28) (.tmp 28) 22 rfl w.heap.size 5 i0 (.int .u8 0) 1 Try.underlying22 hti hz0 hz1 .i64 .i64 _ _ n rfl rfl rfl rfl (by rw [hz2]; omega) (by unfold maxLen; omega) (Nat.le_refl _) ?_; intro w1 hown1 hg1; have hB1 : Below w.heap.size w w1 := (Below.refl _ _).grown hg1 (Nat.le_refl _) (fun k h => by cases h); obtain ⟨w2, hcp, HB2, HW2⟩ := copy_run (cap := cap) (HB.out.keep hB1) hown1 hB1; clear hown1 hg1 hB1))
  obtain ⟨j, ok, HJ, hjn⟩ : ∃ j ok, Hid (Ends L i j ok) ∧ j ≤ n := by
    obtain ⟨j, ok, h1, h2⟩ := ends_some L i (by rw [HB.out.1]; omega)
    exact ⟨j, ok, h1, by rw [HB.out.1] at h2; exact h2⟩
  refine (zzScan_any (some ⟨w.heap.size, 0, none⟩) n n i L _ HB2 (by omega) hi j ok HJ).mono ?_
  rintro e w3 ⟨rfl, rfl⟩
  clear hcp
  go_wp2_with fail
  refine (model_any (some ⟨w.heap.size, 0, none⟩) n n i L _ HB2 (by omega) (by omega) j ok HJ).mono ?_
  rintro e w4 ⟨rfl, rfl⟩
  go_wp2
  go_ret
  exact ⟨ret_bool (by simp), HW2.out⟩

end Go.Proofs.Qxb6606435a
