/-
  Seat b6606447a: the contracts of zzShapePbB1, zzWellFormedPbB1 and of the bound on the length.
-/
import Derived.Test.Qxb6606447aZz
namespace Go.Proofs.Qxb6606447a
open Go.ChangeShapes Go.WideShapes Go.ChangeAt Go.RowKit
open Plain

/-- What a cursor that is said to be well-formed obeys. -/
def Fit (s : ByteArray) (pos at0 col : Int) : Prop := 0 ≤ pos ∧ pos ≤ (s.size : Int) ∧ 0 ≤ at0 ∧ Shape at0 col (s.data.toList.drop pos.toNat)

set_option maxRecDepth 100000 in
set_option maxHeartbeats 1600000 in
theorem shape_out (s : ByteArray) (pos at0 col : Int) (w : World) (h : pos < 0 ∨ (s.size : Int) < pos ∨ at0 < 0) :
    Calls Try.prog 11 #[.string s, .int .i64 pos, .int .i64 at0, .int .i64 col] w fun e w' => e = .returned (.bool false) ∧ w = w' := by
  by_cases h1 : pos < 0
  · go_enter Try.func11, Try.ntmps11
    go_wp2
    go_ret
    exact ⟨rfl, rfl⟩
  · by_cases h2 : (s.size : Int) < pos
    · go_enter Try.func11, Try.ntmps11
      go_wp2
      go_ret
      exact ⟨rfl, rfl⟩
    · have h3 : at0 < 0 := by omega
      go_enter Try.func11, Try.ntmps11
      go_wp2
      go_ret
      exact ⟨rfl, rfl⟩

set_option maxRecDepth 100000 in
set_option maxHeartbeats 1600000 in
theorem shape_in (s : ByteArray) (p : Nat) (at0 col : Int) (w : World) (hp : p ≤ s.size) (h0 : 0 ≤ at0) (h1 : at0 ≤ 536870912) :
    ∃ b : Bool, (b = true → Shape at0 col (s.data.toList.drop p)) ∧ Calls Try.prog 11 #[.string s, .int .i64 (p : Int), .int .i64 at0, .int .i64 col] w fun e w' => e = .returned (.bool b) ∧ w = w' := by
  have hp0 : ¬ (p : Int) < 0 := by omega
  have hp1 : ¬ (s.size : Int) < (p : Int) := by omega
  have hat : ¬ at0 < 0 := by omega
  by_cases hc : col = at0
  · refine ⟨true, fun _ => ⟨h0, .inl hc⟩, ?_⟩
    subst hc
    go_enter Try.func11, Try.ntmps11
    go_wp2
    go_ret
    exact ⟨rfl, rfl⟩
  · have hcb : (col == at0) = false := by simpa using hc
    by_cases hg : at0 < col
    · by_cases hlt : p < s.size
      · have hkL : p < s.data.toList.length := by simpa using hlt
        have HG : Hid (s.data.toList.getD p 0 = s[p]) := getD_data s p hlt
        have hki : (p : Int) < (s.size : Int) := by omega
        by_cases h9 : (s[p].toNat : Int) = 9
        · have b9 : ((s[p].toNat : Int) == 9) = true := by simpa using h9
          obtain ⟨X, hX⟩ : ∃ X, stB at0 9 = X := ⟨_, rfl⟩
          have HX : Hid (stB at0 9 = X) := hX
          have HSH : Hid (col < X → Shape at0 col (s.data.toList.drop p)) := by
            intro hlt'
            refine ⟨h0, .inr ⟨hg, s.data.toList.drop (p + 1), ?_, by rw [hX]; exact hlt'⟩⟩
            rw [drop_cons _ p hkL, HG.out, eq9.2 h9]
          clear hX h9
          by_cases hX' : col < X
          · refine ⟨true, fun _ => HSH.out hX', ?_⟩
            go_enter Try.func11, Try.ntmps11
            go_wp2_with fail
            refine (nextStop_any at0 _ h0 (by omega)).mono ?_
            rintro e w' ⟨rfl, rfl⟩
            rw [HX.out]
            go_wp2
            go_ret
            exact ⟨rfl, rfl⟩
          · refine ⟨false, (fun h => by cases h), ?_⟩
            go_enter Try.func11, Try.ntmps11
            go_wp2_with fail
            refine (nextStop_any at0 _ h0 (by omega)).mono ?_
            rintro e w' ⟨rfl, rfl⟩
            rw [HX.out]
            go_wp2
            go_ret
            exact ⟨ret_bool (decide_eq_false (by omega)), rfl⟩
        · have b9 : ((s[p].toNat : Int) == 9) = false := by simpa using h9
          refine ⟨false, (fun h => by cases h), ?_⟩
          clear h9
          go_enter Try.func11, Try.ntmps11
          go_wp2
          go_ret
          exact ⟨rfl, rfl⟩
      · have hki : ¬ (p : Int) < (s.size : Int) := by omega
        refine ⟨false, (fun h => by cases h), ?_⟩
        go_enter Try.func11, Try.ntmps11
        go_wp2
        go_ret
        exact ⟨rfl, rfl⟩
    · refine ⟨false, (fun h => by cases h), ?_⟩
      go_enter Try.func11, Try.ntmps11
      go_wp2
      go_ret
      exact ⟨rfl, rfl⟩

set_option maxRecDepth 100000 in
set_option maxHeartbeats 1600000 in
theorem well_any (s : ByteArray) (pos at0 col : Int) (w : World) :
    ∃ b : Bool, (b = true → Fit s pos at0 col ∧ at0 ≤ 536870912) ∧ Calls Try.prog 7 #[.string s, .int .i64 pos, .int .i64 at0, .int .i64 col] w fun e w' => e = .returned (.bool b) ∧ w = w' := by
  by_cases hb : at0 ≤ 536870912
  · by_cases h : pos < 0 ∨ (s.size : Int) < pos ∨ at0 < 0
    · refine ⟨false, (fun h => by cases h), ?_⟩
      have HO : Hid (pos < 0 ∨ (s.size : Int) < pos ∨ at0 < 0) := h
      clear h
      go_enter Try.func7, Try.ntmps7
      go_wp2_with fail
      refine (shape_out s pos at0 col _ HO.out).mono ?_
      rintro e w' ⟨rfl, rfl⟩
      go_wp2
      go_ret
      exact ⟨rfl, rfl⟩
    · have hp0 : 0 ≤ pos := by omega
      obtain ⟨p, rfl⟩ := Int.eq_ofNat_of_zero_le hp0
      have hp : p ≤ s.size := by omega
      have ha : 0 ≤ at0 := by omega
      clear h
      obtain ⟨b, hb1, hb2⟩ := shape_in s p at0 col w hp ha hb
      refine ⟨b, fun e => ⟨⟨hp0, by omega, ha, by simpa using hb1 e⟩, hb⟩, ?_⟩
      have HB2 : Hid (Calls Try.prog 11 #[.string s, .int .i64 (p : Int), .int .i64 at0, .int .i64 col] w fun e w' => e = .returned (.bool b) ∧ w = w') := hb2
      clear hb1 hb2 hp0
      go_enter Try.func7, Try.ntmps7
      go_wp2_with fail
      refine HB2.out.mono ?_
      rintro e w' ⟨rfl, rfl⟩
      go_wp2
      go_ret
      exact ⟨rfl, rfl⟩
  · refine ⟨false, (fun h => by cases h), ?_⟩
    go_enter Try.func7, Try.ntmps7
    go_wp2
    go_ret
    exact ⟨rfl, rfl⟩

set_option maxHeartbeats 400000 in
theorem bytes_in (a0 : Bool) (a1 : Int) (a2 : Bool) (s : ByteArray) (a4 a5 a6 a7 a8 : Int) (w : World) (hs : s.size ≤ 1048576) :
    Calls Try.prog 6 #[.bool a0, .int .i64 a1, .bool a2, .string s, .int .i64 a4, .int .i64 a5, .int .i64 a6, .int .i64 a7, .int .i64 a8] w fun e w' => e = .returned (.bool true) ∧ w = w' := by
  have h1 : (s.size : Int) ≤ 1048576 := by omega
  go_enter Try.func6, Try.ntmps6
  go_wp2
  go_ret
  exact ⟨rfl, rfl⟩

set_option maxHeartbeats 400000 in
theorem bytes_out (a0 : Bool) (a1 : Int) (a2 : Bool) (s : ByteArray) (a4 a5 a6 a7 a8 : Int) (w : World) (hs : ¬ s.size ≤ 1048576) :
    Calls Try.prog 6 #[.bool a0, .int .i64 a1, .bool a2, .string s, .int .i64 a4, .int .i64 a5, .int .i64 a6, .int .i64 a7, .int .i64 a8] w fun e w' => e = .returned (.bool false) ∧ w = w' := by
  have h1 : (1048576 : Int) < (s.size : Int) := by omega
  go_enter Try.func6, Try.ntmps6
  go_wp2
  go_ret
  exact ⟨rfl, rfl⟩

end Go.Proofs.Qxb6606447a
