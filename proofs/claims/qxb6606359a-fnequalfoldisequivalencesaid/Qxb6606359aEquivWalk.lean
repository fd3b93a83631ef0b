/-
  Seat b6606359a: the walk of FnEqualFoldIsEquivalence.
-/
import Derived.Test.Qxb6606359aWays
namespace Go.Proofs.Qxb6606359a
open Go.ChangeShapes Go.WideShapes Go.ChangeAt Go.RowKit
open Plain

set_option maxHeartbeats 400000 in
theorem bytes10_yes (a0 a1 : Option Addr) (n0 c0 n1 c1 : Nat) (s : ByteArray) (w : World) (h : n0 + n1 + s.size ≤ 1048576) :
    Calls Try.prog 10 #[.slice a0 n0 c0, .slice a1 n1 c1, .string s] w fun e w' => e = .returned (.bool true) ∧ w = w' := by
  go_enter Try.func10, Try.ntmps10
  go_wp2
  go_ret
  exact ⟨rfl, rfl⟩

set_option maxHeartbeats 400000 in
theorem bytes10_no (a0 a1 : Option Addr) (n0 c0 n1 c1 : Nat) (s : ByteArray) (w : World) (h : 1048576 < n0 + n1 + s.size) (h0 : n0 ≤ maxLen) (h1 : n1 ≤ maxLen) (h2 : s.size ≤ maxLen) :
    Calls Try.prog 10 #[.slice a0 n0 c0, .slice a1 n1 c1, .string s] w fun e w' => e = .returned (.bool false) ∧ w = w' := by
  unfold maxLen at h0 h1 h2
  by_cases k0 : n0 ≤ 1048576
  · by_cases k1 : n1 ≤ 1048576
    · by_cases k01 : n0 + n1 ≤ 1048576
      · by_cases k2 : s.size ≤ 1048576
        all_goals
          go_enter Try.func10, Try.ntmps10
          go_wp2
          go_ret
          exact ⟨rfl, rfl⟩
      · go_enter Try.func10, Try.ntmps10
        go_wp2
        go_ret
        exact ⟨rfl, rfl⟩
    · go_enter Try.func10, Try.ntmps10
      go_wp2
      go_ret
      exact ⟨rfl, rfl⟩
  · go_enter Try.func10, Try.ntmps10
    go_wp2
    go_ret
    exact ⟨rfl, rfl⟩

set_option maxHeartbeats 400000 in
theorem equiv_out (a0 a1 : Option Addr) (n0 c0 n1 c1 : Nat) (s : ByteArray) (w : World) (h0 : n0 ≤ maxLen) (h1 : n1 ≤ maxLen) (h2 : s.size ≤ maxLen)
    (h : 262144 < n0 ∨ 262144 < n1 ∨ 262144 < s.size) :
    Calls Try.prog 4 #[.slice a0 n0 c0, .slice a1 n1 c1, .string s] w fun e w' => e = .returned (.bool true) ∧ Below w.heap.size w w' := by
  by_cases hs : n0 + n1 + s.size ≤ 1048576
  · by_cases k0 : n0 ≤ 262144
    · by_cases k1 : n1 ≤ 262144
      all_goals
        go_enter Try.func4, Try.ntmps4
        go_wp2_with (go_at_call 10; refine (bytes10_yes a0 a1 n0 c0 n1 c1 s _ hs).mono ?_; rintro e w' ⟨rfl, rfl⟩)
        go_ret
        exact ⟨rfl, Below.refl _ _⟩
    · go_enter Try.func4, Try.ntmps4
      go_wp2_with (go_at_call 10; refine (bytes10_yes a0 a1 n0 c0 n1 c1 s _ hs).mono ?_; rintro e w' ⟨rfl, rfl⟩)
      go_ret
      exact ⟨rfl, Below.refl _ _⟩
  · go_enter Try.func4, Try.ntmps4
    go_wp2_with (go_at_call 10; refine (bytes10_no a0 a1 n0 c0 n1 c1 s _ (by omega) h0 h1 h2).mono ?_; rintro e w' ⟨rfl, rfl⟩)
    go_ret
    exact ⟨rfl, Below.refl _ _⟩

set_option maxHeartbeats 1600000 in
theorem equiv_in (a0 a1 : Option Addr) (n0 c0 n1 c1 : Nat) (l0 l1 : List UInt8) (s : ByteArray) (w : World) (hb0 : Hid (Bs w a0 n0 l0)) (hb1 : Hid (Bs w a1 n1 l1))
    (h0 : n0 ≤ 262144) (h1 : n1 ≤ 262144) (h2 : s.size ≤ 262144) :
    Calls Try.prog 4 #[.slice a0 n0 c0, .slice a1 n1 c1, .string s] w fun e w' => e = .returned (.bool true) ∧ Below w.heap.size w w' := by
  obtain ⟨x, hx⟩ : ∃ x, foldB l0 s.data.toList = x := ⟨_, rfl⟩
  obtain ⟨y, hy⟩ : ∃ y, foldB l1 s.data.toList = y := ⟨_, rfl⟩
  have HX : Hid (foldB l0 s.data.toList = x) := hx
  have HY : Hid (foldB l1 s.data.toList = y) := hy
  have hl0 : (⟨l0.toArray⟩ : ByteArray).size ≤ 1048576 := by
    have := hb0.out.1
    show l0.toArray.size ≤ _
    simp; omega
  have hl1 : (⟨l1.toArray⟩ : ByteArray).size ≤ 1048576 := by
    have := hb1.out.1
    show l1.toArray.size ≤ _
    simp; omega
  clear hx hy
  go_enter Try.func4, Try.ntmps4
  go_wp2_with (go_at_call 10; refine (bytes10_yes a0 a1 n0 c0 n1 c1 s _ (by omega)).mono ?_; rintro e w' ⟨rfl, rfl⟩)
  refine (clone_h a0 n0 c0 l0 _ hb0.out (by omega)).mono ?_
  rintro e w1 ⟨p0, d0, rfl, HB0, HW1⟩
  go_wp2_with fail
  refine (clone_h a1 n1 c1 l1 _ (hb1.out.keep HW1.out) (by omega)).mono ?_
  rintro e w2 ⟨p1, d1, rfl, HB1, HW2⟩
  have HB0 : Hid (Bs w2 p0 n0 l0) := HB0.out.keep HW2.out
  have hcv : (convert 22 9 (.slice p0 n0 d0)).run Try.prog w2 = .ok (.string ⟨l0.toArray⟩) w2 := HB0.out.string
  go_wp2_with fail
  refine (zzEF p0 n0 d0 l0 ⟨l0.toArray⟩ _ true HB0.out (by omega) hl0 (by simpa using foldB_refl l0)).mono ?_
  rintro e w3 ⟨rfl, HS3⟩
  have HB0 : Hid (Bs w3 p0 n0 l0) := HB0.out.still HS3.out
  have HB1 : Hid (Bs w3 p1 n1 l1) := HB1.out.still HS3.out
  have HW3 : Hid (Below w.heap.size w w3) := (HW1.out.trans (HW2.out.mono HW1.out.size)).trans HS3.out.below
  clear hcv HS3
  have hcs : ∀ W : World, (convert 9 22 (.string s)).run Try.prog W = .ok (.slice (some ⟨W.heap.size, 0, none⟩) s.size (grownCap W s.size 0 5))
      (W.drew.alloc (.cells (bytesRow s (grownCap W s.size 0 5)) 5 ((bytesRow s (grownCap W s.size 0 5)).size, (bytesRow s (grownCap W s.size 0 5)).size + 1))) := fun W => run_bytes_of_string W 9 22 5 s Try.underlying9 Try.underlying22 Try.underlying5
  have hB : Bs w3 p0 n0 l0 := HB0.out
  have HXS : Hid (foldB s.data.toList (⟨l0.toArray⟩ : ByteArray).data.toList = x) := by
    show _ = _
    rw [foldB_symm]
    simpa using HX.out
  have hcv0 := hB.drew.string (cap := d0)
  have hcv1 := fun o => (hB.alloc o).drew.drew.string (cap := d0)
  have HBB : Hid (Bs w3 p0 n0 l0) := hB
  clear hB
  go_wp2_with fail
  go_region_with (first
    | (go_at_call_of 8 (Value.string s); refine (zzEF p0 n0 d0 l0 s _ x ?_ (by omega) (by omega) HX.out).mono ?_; (first | exact HBB.out.drew | exact (HBB.out.alloc _).drew.drew); rintro e w4 ⟨rfl, HS4⟩; have HB4 : Hid (Bs w4 p0 n0 l0) := (by first | exact HBB.out.drew.still HS4.out | exact (HBB.out.alloc _).drew.drew.still HS4.out); have hcv2 := HB4.out.string (cap := d0); have hcv3 := fun o => (HB4.out.alloc o).drew.string (cap := d0); have HE4 : Hid (Below w3.heap.size w3 w4) := (by first | exact (Below.refl _ _).drew.trans HS4.out.below | exact ((Below.refl _ _).alloc (Nat.le_refl _) _).drew.drew.trans HS4.out.below))
    | (go_at_call 8; refine (zzEF _ s.size _ s.data.toList ⟨l0.toArray⟩ _ x ?_ (by omega) hl0 HXS.out).mono ?_; (first | exact (bs_new _ s _ _ _).drew | exact (bs_new _ s _ _ _).drew.drew.still HS4.out); rintro e w5 ⟨rfl, HS5⟩; have HE5 : Hid (Below w3.heap.size w3 w5) := (by first | exact HE4.out.trans HS5.out.below | exact ((HE4.out.alloc HE4.out.size _).drew).trans HS5.out.below)))
  all_goals
    have HB5 : Hid (Bs w5 p0 n0 l0) := HBB.out.keep HE5.out
    have HC5 : Hid (Bs w5 p1 n1 l1) := HB1.out.keep HE5.out
    have HW5 : Hid (Below w.heap.size w w5) := HW3.out.trans (HE5.out.mono HW3.out.size)
    clear HE5 HE4 HS5 HS4 HB4 hcv0 hcv1 hcv2 hcv3 hcs HBB HW3 HB0 HB1 HXS
    go_wp2_with fail
    refine (zzEF p0 n0 d0 l0 s _ x HB5.out (by omega) (by omega) HX.out).mono ?_
    rintro e w6 ⟨rfl, HS6⟩
    have HC6 : Hid (Bs w6 p1 n1 l1) := HC5.out.still HS6.out
    have HB6 : Hid (Bs w6 p0 n0 l0) := HB5.out.still HS6.out
    have HW6 : Hid (Below w.heap.size w w6) := HW5.out.trans HS6.out.below
    clear HS6 HB5 HC5 HW5
    cases x
    · go_wp2
      go_ret
      exact ⟨rfl, HW6.out⟩
    · go_wp2_with fail
      refine (zzEF p1 n1 d1 l1 s _ y HC6.out (by omega) (by omega) HY.out).mono ?_
      rintro e w7 ⟨rfl, HS7⟩
      have HC7 : Hid (Bs w7 p1 n1 l1) := HC6.out.still HS7.out
      have HB7 : Hid (Bs w7 p0 n0 l0) := HB6.out.still HS7.out
      have HW7 : Hid (Below w.heap.size w w7) := HW6.out.trans HS7.out.below
      cases y
      · go_wp2
        go_ret
        exact ⟨rfl, HW7.out⟩
      · have hcv7 := HC7.out.string (cap := d1)
        go_wp2_with fail
        refine (zzEF p0 n0 d0 l0 ⟨l1.toArray⟩ _ true HB7.out (by omega) hl1 (by simpa using foldB_trans l0 l1 _ HX.out HY.out)).mono ?_
        rintro e w8 ⟨rfl, HS8⟩
        go_wp2
        go_ret
        exact ⟨rfl, HW7.out.trans HS8.out.below⟩

end Go.Proofs.Qxb6606359a
