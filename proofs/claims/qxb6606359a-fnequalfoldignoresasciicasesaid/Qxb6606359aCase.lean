/-
  Seat b6606359a: the contracts of zzUpperBytes and zzLowerString; the walk of FnEqualFoldIgnoresAsciiCase.
-/
import Derived.Test.Qxb6606359aWays
namespace Go.Proofs.Qxb6606359a
open Go.ChangeShapes Go.WideShapes Go.ChangeAt Go.RowKit
open Plain

theorem upper_eq (c : UInt8) : ((upB c).toNat : Int) = if 97 ≤ (c.toNat : Int) ∧ (c.toNat : Int) ≤ 122 then (c.toNat : Int) - 32 else c.toNat :=
  all_bytes (fun c => ((upB c).toNat : Int) = if 97 ≤ (c.toNat : Int) ∧ (c.toNat : Int) ≤ 122 then (c.toNat : Int) - 32 else c.toNat) (by decide +kernel) c

theorem getD_map (f : UInt8 → UInt8) (l : List UInt8) (k : Nat) (h : k < l.length) : (l.map f).getD k 0 = f (l.getD k 0) := by
  rw [List.getD_eq_getElem?_getD, List.getD_eq_getElem?_getD, List.getElem?_map, List.getElem?_eq_getElem h]; rfl

/-- The store of a byte that is told as a number. -/
theorem Fills.step_int {w : World} {base g n k : Nat} {f : Nat → UInt8} (h : Fills w base g n k f) (hk : k < n) (z : Int) (hz : z = ((f k).toNat : Int)) :
    Fills (w.setCell ⟨g, k, none⟩ (.int .u8 z)) base g n (k + 1) f := by
  rw [hz]; exact h.step hk _ rfl

set_option maxHeartbeats 800000 in
theorem upper_any (a : Option Addr) (n cap : Nat) (l : List UInt8) (w : World) (hb : Bs w a n l) (hn : n ≤ 1048576) :
    Calls Try.prog 12 #[.slice a n cap] w fun e w' => ∃ a' cap', e = .returned (.slice a' n cap') ∧ Hid (Bs w' a' n (l.map upB)) ∧ Hid (Below w.heap.size w w') := by
  obtain ⟨i0, hi, hz0, hz1, hz2⟩ := info_parts Try.info5
  obtain ⟨HL, hcells⟩ := hb
  have HL : Hid (l.length = n) := HL
  go_enter Try.func12, Try.ntmps12
  go_wp2_with (at_make; refine wpList_make_full _ rfl (.tmp 7) (.tmp 7) 22 rfl w.heap.size 5 i0 (.int .u8 0) 1 Try.underlying22 hi hz0 hz1 .i64 .i64 _ _ n rfl rfl rfl rfl (by rw [hz2]; omega) (by unfold maxLen; omega) (Nat.le_refl _) ?_; intro w1 hown1 hg1)
  go_loopw [4] (fun i wr => ∃ k : Nat, k ≤ n ∧ i = .int .i64 k ∧ Hid (Fills wr w.heap.size w.heap.size n k (fun j => (l.map upB).getD j 0)) ∧ Hid (Below w.heap.size w wr)) (fun i _ => n - (intOf i).toNat)
  case atStart => exact ⟨0, Nat.zero_le _, rfl, Fills.start hown1, (Below.refl _ _).grown hg1 (Nat.le_refl _) (fun k h => by cases h)⟩
  case round =>
    obtain ⟨k, hk, rfl, HX, HB⟩ := hrel
    by_cases hlt : k < n
    · obtain ⟨b, off, rfl, hbl, hc⟩ := hcells (by omega)
      have hck : wr.cell? ⟨b, off + k, none⟩ = some (.int .u8 ((l.getD k 0).toNat : Int)) := by rw [HB.out.cell (by exact hbl)]; exact hc k hlt
      obtain ⟨c, hcc⟩ : ∃ c, c = l.getD k 0 := ⟨_, rfl⟩
      rw [← hcc] at hck
      have HC : Hid (((l.map upB).getD k 0) = upB c) := by
        show _ = _
        rw [getD_map upB l k (by rw [HL.out]; exact hlt), ← hcc]
      have HU : Hid (((upB c).toNat : Int) = if 97 ≤ (c.toNat : Int) ∧ (c.toNat : Int) ≤ 122 then (c.toNat : Int) - 32 else c.toNat) := upper_eq c
      have hki : (k : Int) < (n : Int) := by omega
      have hcb := c.toNat_lt
      obtain ⟨⟨v, hv⟩, hfz⟩ := HX.out.cell k hlt
      clear hcc hc hcells
      by_cases h1 : 97 ≤ (c.toNat : Int)
      · by_cases h2 : (c.toNat : Int) ≤ 122
        · go_wp2
          go_roundw
          case rel => exact ⟨k + 1, by omega, by go_num, HX.out.step_int hlt _ (by rw [HC.out, HU.out, if_pos ⟨h1, h2⟩]), HB.out.setCell (by exact Nat.le_refl _) _⟩
          case measure => simp [intOf]; omega
        · go_wp2
          go_roundw
          case rel => exact ⟨k + 1, by omega, by go_num, HX.out.step_int hlt _ (by rw [HC.out, HU.out, if_neg (by omega)]), HB.out.setCell (by exact Nat.le_refl _) _⟩
          case measure => simp [intOf]; omega
      · go_wp2
        go_roundw
        case rel => exact ⟨k + 1, by omega, by go_num, HX.out.step_int hlt _ (by rw [HC.out, HU.out, if_neg (by omega)]), HB.out.setCell (by exact Nat.le_refl _) _⟩
        case measure => simp [intOf]; omega
    · have hkn : k = n := by omega
      go_wp2
      go_ret
      exact ⟨some ⟨w.heap.size, 0, none⟩, n, rfl, Fills.bs (by simpa using HL.out) (by have := HX.out; rwa [hkn] at this), HB.out⟩

/-- What a finished loop 'out[i] = ..' hands to 'string(out)'. -/
theorem Fills.string {w : World} {base g n : Nat} {l : List UInt8} (hl : l.length = n) (h : Fills w base g n n (fun j => l.getD j 0)) : (convert 22 9 (.slice (some ⟨g, 0, none⟩) n n)).run Try.prog w = .ok (.string ⟨l.toArray⟩) w := (Fills.bs hl h).string

set_option maxHeartbeats 800000 in
theorem lowerS_any (s : ByteArray) (w : World) (hn : s.size ≤ 1048576) :
    Calls Try.prog 13 #[.string s] w fun e w' => e = .returned (.string ⟨(s.data.toList.map lowB).toArray⟩) ∧ Hid (Below w.heap.size w w') := by
  obtain ⟨i0, hi, hz0, hz1, hz2⟩ := info_parts Try.info5
  go_enter Try.func13, Try.ntmps13
  go_wp2_with (at_make; refine wpList_make_full _ rfl (.tmp 7) (.tmp 7) 22 rfl w.heap.size 5 i0 (.int .u8 0) 1 Try.underlying22 hi hz0 hz1 .i64 .i64 _ _ s.size rfl rfl rfl rfl (by rw [hz2]; omega) (by unfold maxLen; omega) (Nat.le_refl _) ?_; intro w1 hown1 hg1)
  go_loopw [4] (fun i wr => ∃ k : Nat, k ≤ s.size ∧ i = .int .i64 k ∧ Hid (Fills wr w.heap.size w.heap.size s.size k (fun j => (s.data.toList.map lowB).getD j 0)) ∧ Hid (Below w.heap.size w wr)) (fun i _ => s.size - (intOf i).toNat)
  case atStart => exact ⟨0, Nat.zero_le _, rfl, Fills.start hown1, (Below.refl _ _).grown hg1 (Nat.le_refl _) (fun k h => by cases h)⟩
  case round =>
    obtain ⟨k, hk, rfl, HX, HB⟩ := hrel
    by_cases hlt : k < s.size
    · have HC : Hid (((s.data.toList.map lowB).getD k 0) = lowB s[k]) := by
        show _ = _
        rw [getD_map lowB _ k (by simpa using hlt), getD_data s k hlt]
      have HU : Hid (((lowB s[k]).toNat : Int) = if 65 ≤ (s[k].toNat : Int) ∧ (s[k].toNat : Int) ≤ 90 then (s[k].toNat : Int) + 32 else s[k].toNat) := lower_eq s[k]
      have hki : (k : Int) < (s.size : Int) := by omega
      obtain ⟨⟨v, hv⟩, hfz⟩ := HX.out.cell k hlt
      by_cases h1 : 65 ≤ (s[k].toNat : Int)
      · by_cases h2 : (s[k].toNat : Int) ≤ 90
        · go_wp2
          go_roundw
          case rel => exact ⟨k + 1, by omega, by go_num, HX.out.step_int hlt _ (by rw [HC.out, HU.out, if_pos ⟨h1, h2⟩]), HB.out.setCell (by exact Nat.le_refl _) _⟩
          case measure => simp [intOf]; omega
        · go_wp2
          go_roundw
          case rel => exact ⟨k + 1, by omega, by go_num, HX.out.step_int hlt _ (by rw [HC.out, HU.out, if_neg (by omega)]), HB.out.setCell (by exact Nat.le_refl _) _⟩
          case measure => simp [intOf]; omega
      · go_wp2
        go_roundw
        case rel => exact ⟨k + 1, by omega, by go_num, HX.out.step_int hlt _ (by rw [HC.out, HU.out, if_neg (by omega)]), HB.out.setCell (by exact Nat.le_refl _) _⟩
        case measure => simp [intOf]; omega
    · have hkn : k = s.size := by omega
      have hcv := Fills.string (l := s.data.toList.map lowB) (n := s.size) (by simp) (by have := HX.out; rwa [hkn] at this)
      go_wp2
      go_ret
      exact ⟨rfl, HB.out⟩

set_option maxHeartbeats 400000 in
theorem bytes11_yes (a0 : Option Addr) (n0 c0 : Nat) (s : ByteArray) (w : World) (h : n0 + s.size ≤ 1048576) :
    Calls Try.prog 11 #[.slice a0 n0 c0, .string s] w fun e w' => e = .returned (.bool true) ∧ w = w' := by
  go_enter Try.func11, Try.ntmps11
  go_wp2
  go_ret
  exact ⟨rfl, rfl⟩

set_option maxHeartbeats 400000 in
theorem bytes11_no (a0 : Option Addr) (n0 c0 : Nat) (s : ByteArray) (w : World) (h : 1048576 < n0 + s.size) (h0 : n0 ≤ maxLen) (h2 : s.size ≤ maxLen) :
    Calls Try.prog 11 #[.slice a0 n0 c0, .string s] w fun e w' => e = .returned (.bool false) ∧ w = w' := by
  unfold maxLen at h0 h2
  by_cases k0 : n0 ≤ 1048576
  · by_cases k2 : s.size ≤ 1048576
    all_goals
      go_enter Try.func11, Try.ntmps11
      go_wp2
      go_ret
      exact ⟨rfl, rfl⟩
  · go_enter Try.func11, Try.ntmps11
    go_wp2
    go_ret
    exact ⟨rfl, rfl⟩

set_option maxHeartbeats 400000 in
theorem case_out (a0 : Option Addr) (n0 c0 : Nat) (s : ByteArray) (w : World) (h0 : n0 ≤ maxLen) (h2 : s.size ≤ maxLen) (h : 262144 < n0 ∨ 262144 < s.size) :
    Calls Try.prog 5 #[.slice a0 n0 c0, .string s] w fun e w' => e = .returned (.bool true) ∧ Below w.heap.size w w' := by
  by_cases hs : n0 + s.size ≤ 1048576
  · by_cases k0 : n0 ≤ 262144
    all_goals
      go_enter Try.func5, Try.ntmps5
      go_wp2_with (go_at_call 11; refine (bytes11_yes a0 n0 c0 s _ hs).mono ?_; rintro e w' ⟨rfl, rfl⟩)
      go_ret
      exact ⟨rfl, Below.refl _ _⟩
  · go_enter Try.func5, Try.ntmps5
    go_wp2_with (go_at_call 11; refine (bytes11_no a0 n0 c0 s _ (by omega) h0 h2).mono ?_; rintro e w' ⟨rfl, rfl⟩)
    go_ret
    exact ⟨rfl, Below.refl _ _⟩

set_option maxHeartbeats 1600000 in
theorem case_in (a0 : Option Addr) (n0 c0 : Nat) (l0 : List UInt8) (s : ByteArray) (w : World) (hb0 : Hid (Bs w a0 n0 l0)) (h0 : n0 ≤ 262144) (h2 : s.size ≤ 262144) :
    Calls Try.prog 5 #[.slice a0 n0 c0, .string s] w fun e w' => e = .returned (.bool true) ∧ Below w.heap.size w w' := by
  obtain ⟨x, hx⟩ : ∃ x, foldB l0 s.data.toList = x := ⟨_, rfl⟩
  have HX : Hid (foldB l0 s.data.toList = x) := hx
  have hl0 : (⟨l0.toArray⟩ : ByteArray).size ≤ 1048576 := by
    have := hb0.out.1
    show l0.toArray.size ≤ _
    simp; omega
  obtain ⟨t, ht⟩ : ∃ t : ByteArray, t = ⟨(s.data.toList.map lowB).toArray⟩ := ⟨_, rfl⟩
  have HT : Hid (t.data.toList = s.data.toList.map lowB) := by show _ = _; rw [ht]
  have htn : t.size ≤ 1048576 := by
    rw [ht]
    show (s.data.toList.map lowB).toArray.size ≤ _
    simp; omega
  have HT0 : Hid (t = ⟨(s.data.toList.map lowB).toArray⟩) := ht
  clear hx ht
  go_enter Try.func5, Try.ntmps5
  go_wp2_with (go_at_call 11; refine (bytes11_yes a0 n0 c0 s _ (by omega)).mono ?_; rintro e w' ⟨rfl, rfl⟩)
  refine (clone_h a0 n0 c0 l0 _ hb0.out (by omega)).mono ?_
  rintro e w1 ⟨p0, d0, rfl, HB1, HW1⟩
  go_wp2_with fail
  refine (zzEF p0 n0 d0 l0 s _ x HB1.out (by omega) (by omega) HX.out).mono ?_
  rintro e w2 ⟨rfl, HS2⟩
  have HB2 : Hid (Bs w2 p0 n0 l0) := HB1.out.still HS2.out
  have HW2 : Hid (Below w.heap.size w w2) := HW1.out.trans HS2.out.below
  clear HB1 HS2 HW1
  go_wp2_with fail
  refine (upper_any p0 n0 d0 l0 _ HB2.out (by omega)).mono ?_
  rintro e w3 ⟨p1, d1, rfl, HU3, HE3⟩
  have HB3 : Hid (Bs w3 p0 n0 l0) := HB2.out.keep HE3.out
  have HW3 : Hid (Below w.heap.size w w3) := HW2.out.trans (HE3.out.mono HW2.out.size)
  clear HB2 HE3 HW2
  go_wp2_with fail
  refine (lowerS_any s _ (by omega)).mono ?_
  rintro e w4 ⟨rfl, HE4⟩
  have HB4 : Hid (Bs w4 p0 n0 l0) := HB3.out.keep HE4.out
  have HU4 : Hid (Bs w4 p1 n0 (l0.map upB)) := HU3.out.keep HE4.out
  have HW4 : Hid (Below w.heap.size w w4) := HW3.out.trans (HE4.out.mono HW3.out.size)
  clear HB3 HE4 HW3 HU3
  rw [← HT0.out]
  go_wp2_with fail
  refine (zzEF p1 n0 d1 (l0.map upB) s _ x HU4.out (by omega) (by omega) (by rw [foldB_up]; exact HX.out)).mono ?_
  rintro e w5 ⟨rfl, HS5⟩
  have HB5 : Hid (Bs w5 p0 n0 l0) := HB4.out.still HS5.out
  have HU5 : Hid (Bs w5 p1 n0 (l0.map upB)) := HU4.out.still HS5.out
  have HW5 : Hid (Below w.heap.size w w5) := HW4.out.trans HS5.out.below
  clear HB4 HU4 HW4 HS5
  go_wp2_with fail
  refine (zzEF p0 n0 d0 l0 t _ x HB5.out (by omega) htn (by rw [HT.out, foldB_low]; exact HX.out)).mono ?_
  rintro e w6 ⟨rfl, HS6⟩
  have HB6 : Hid (Bs w6 p0 n0 l0) := HB5.out.still HS6.out
  have HU6 : Hid (Bs w6 p1 n0 (l0.map upB)) := HU5.out.still HS6.out
  have HW6 : Hid (Below w.heap.size w w6) := HW5.out.trans HS6.out.below
  clear HB5 HU5 HW5 HS6
  go_wp2_with fail
  refine (zzEF p1 n0 d1 (l0.map upB) t _ x HU6.out (by omega) htn (by rw [HT.out, foldB_up, foldB_low]; exact HX.out)).mono ?_
  rintro e w7 ⟨rfl, HS7⟩
  have HB7 : Hid (Bs w7 p0 n0 l0) := HB6.out.still HS7.out
  have HU7 : Hid (Bs w7 p1 n0 (l0.map upB)) := HU6.out.still HS7.out
  have HW7 : Hid (Below w.heap.size w w7) := HW6.out.trans HS7.out.below
  clear HB6 HU6 HW6 HS7
  have hcv := HB7.out.string (cap := d0)
  go_wp2_with fail
  refine (zzEF p1 n0 d1 (l0.map upB) ⟨l0.toArray⟩ _ true HU7.out (by omega) hl0 (by simpa using foldB_up_self l0)).mono ?_
  rintro e w8 ⟨rfl, HS8⟩
  go_wp2
  go_ret
  exact ⟨rfl, HW7.out.trans HS8.out.below⟩

end Go.Proofs.Qxb6606359a
