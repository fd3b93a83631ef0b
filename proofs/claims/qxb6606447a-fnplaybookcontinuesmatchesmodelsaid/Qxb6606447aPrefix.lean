/-
  Seat b6606447a: the contract of strings.HasPrefix at the one sign that is asked for.
-/
import Derived.Test.Qxb6606447aSkip
import Derived.Lib.Strings
import Derived.Lib.IndexBytes
namespace Go.Proofs.Qxb6606447a
open Go.ChangeShapes Go.WideShapes Go.ChangeAt Go.RowKit
open Plain

set_option maxHeartbeats 400000 in
theorem lite_none (t : ByteArray) (w : World) (h : t.size = 0) :
    Calls Try.prog 26 #[.string t, .string ⟨#[62]⟩] w fun e w' => e = .returned (.bool false) ∧ w = w' := by
  go_enter Try.func26, Try.ntmps26
  go_wp2
  go_ret
  exact ⟨rfl, rfl⟩

theorem head_one (t : ByteArray) (h : 0 < t.size) : (t.extract 0 1).toList = [t[0]] := by
  rw [Lib.toList_data, Lib.extract_data]
  have hl : 0 < t.data.toList.length := by simpa using h
  simp only [List.drop_zero, Nat.sub_zero]
  rw [List.take_succ_eq_append_getElem (by simpa using h)]
  simp
  rfl

set_option maxHeartbeats 400000 in
theorem lite_some (t : ByteArray) (w : World) (h : 0 < t.size) (hm : t.size ≤ 1048576) :
    Calls Try.prog 26 #[.string t, .string ⟨#[62]⟩] w fun e w' => e = .returned (.bool (t[0] == 62)) ∧ w = w' := by
  have h1 : (1 : Int) ≤ (t.size : Int) := by omega
  go_enter Try.func26, Try.ntmps26
  go_wp2
  go_ret
  refine ⟨ret_bool ?_, rfl⟩
  rw [head_one t h]
  simp

/-- HasPrefix on what is left of a line. -/
def hasGt (s : ByteArray) (q : Nat) : Bool := decide (q < s.size) && (s.data.toList.getD q 0 == 62)

theorem tail_size (s : ByteArray) (q : Nat) (hq : q ≤ s.size) : (s.extract q s.size).size = s.size - q := by
  rw [ByteArray.size_extract]; omega

theorem tail_head (s : ByteArray) (q : Nat) (h : 0 < (s.extract q s.size).size) : (s.extract q s.size)[0] = s.data.toList.getD q 0 := by
  have e := Lib.extract_to_end s q
  have e1 : (s.extract q s.size).data.toList.getD 0 0 = (s.extract q s.size)[0] := getD_data _ 0 h
  rw [← e1, e, List.getD_eq_getElem?_getD, List.getElem?_drop, List.getD_eq_getElem?_getD, Nat.add_zero]

set_option maxHeartbeats 400000 in
theorem has_some (t : ByteArray) (w : World) (h : 0 < t.size) (hm : t.size ≤ 1048576) (b : Bool) (HB : Hid ((t[0] == 62) = b)) :
    Calls Try.prog 21 #[.string t, .string ⟨#[62]⟩] w fun e w' => e = .returned (.bool b) ∧ w = w' := by
  go_enter Try.func21, Try.ntmps21
  go_wp2_with (go_at_call 26; refine (lite_some t _ h hm).mono ?_; rintro e w' ⟨rfl, rfl⟩)
  go_ret
  exact ⟨ret_bool HB.out, rfl⟩

set_option maxHeartbeats 400000 in
theorem has_none (t : ByteArray) (w : World) (h : t.size = 0) :
    Calls Try.prog 21 #[.string t, .string ⟨#[62]⟩] w fun e w' => e = .returned (.bool false) ∧ w = w' := by
  go_enter Try.func21, Try.ntmps21
  go_wp2_with (go_at_call 26; refine (lite_none t _ h).mono ?_; rintro e w' ⟨rfl, rfl⟩)
  go_ret
  exact ⟨rfl, rfl⟩

theorem hasPrefix_any (s : ByteArray) (q : Nat) (w : World) (hs : s.size ≤ 1048576) (hq : q ≤ s.size) (b : Bool) (HB : Hid (hasGt s q = b)) :
    Calls Try.prog 21 #[.string (s.extract q s.size), .string ⟨#[62]⟩] w fun e w' => e = .returned (.bool b) ∧ w = w' := by
  by_cases h : q < s.size
  · have hz : 0 < (s.extract q s.size).size := by rw [tail_size s q hq]; omega
    have hz1 : (s.extract q s.size).size ≤ 1048576 := by rw [tail_size s q hq]; omega
    refine has_some _ w hz hz1 b ?_
    have := HB.out
    unfold hasGt at this
    rw [decide_eq_true h, Bool.true_and] at this
    show _ = _
    rw [tail_head s q hz]
    exact this
  · have hz : (s.extract q s.size).size = 0 := by rw [tail_size s q hq]; omega
    have HE : false = b := by
      have := HB.out
      unfold hasGt at this
      rw [decide_eq_false h, Bool.false_and] at this
      exact this
    subst HE
    exact has_none _ w hz

end Go.Proofs.Qxb6606447a
