/-
  Seat b6606447a: the law's walk.
-/
import Derived.Test.Qxb6606447aShape
namespace Go.Proofs.Qxb6606447a
open Go.ChangeShapes Go.WideShapes Go.ChangeAt Go.RowKit
open Plain

theorem shape_col {at0 col : Int} {R : List UInt8} (h : Shape at0 col R) : at0 ≤ col ∧ col ≤ at0 + 4 := by
  obtain ⟨h0, h | ⟨h1, r, -, h2⟩⟩ := h
  · omega
  · unfold stB at h2
    rw [if_pos rfl] at h2
    omega

set_option maxRecDepth 100000 in
set_option maxHeartbeats 1600000 in
theorem law_any (a0 : Bool) (a1 : Int) (a2 : Bool) (s : ByteArray) (a4 a5 a6 a7 a8 : Int) (w : World) (hl : -9223372036854775808 ≤ a1) (hu : a1 ≤ 9223372036854775807) :
    Calls Try.prog 3 #[.bool a0, .int .i64 a1, .bool a2, .string s, .int .i64 a4, .int .i64 a5, .int .i64 a6, .int .i64 a7, .int .i64 a8] w fun e w' => e = .returned (.bool true) ∧ Hid (Below w.heap.size w w') := by
  by_cases hs : s.size ≤ 1048576
  · have hsi : (s.size : Int) ≤ 1048576 := by omega
    obtain ⟨b, hb1, hb2⟩ := well_any s a4 a5 a6 w
    have HB : Hid (Calls Try.prog 7 #[.string s, .int .i64 a4, .int .i64 a5, .int .i64 a6] w fun e w' => e = .returned (.bool b) ∧ w = w') := hb2
    clear hb2
    cases b
    · clear hb1
      go_enter Try.func3, Try.ntmps3
      go_wp2_with fail
      refine (bytes_in a0 a1 a2 s a4 a5 a6 a7 a8 _ hs).mono ?_
      rintro e w' ⟨rfl, rfl⟩
      go_wp2_with fail
      refine HB.out.mono ?_
      rintro e w' ⟨rfl, rfl⟩
      go_wp2
      go_ret
      exact ⟨rfl, Below.refl _ _⟩
    · obtain ⟨⟨hp0, hp1, h0, hsh⟩, h1⟩ := hb1 rfl
      obtain ⟨p, rfl⟩ := Int.eq_ofNat_of_zero_le hp0
      have hp : p ≤ s.size := by omega
      have hsh' : Shape a5 a6 (s.data.toList.drop p) := by simpa using hsh
      have HSH : Hid (Shape a5 a6 (s.data.toList.drop p)) := hsh'
      obtain ⟨hc0, hc1⟩ := shape_col hsh'
      obtain ⟨ok, P, A, C, hM⟩ : ∃ ok P A C, contM a0 a1 a2 s.data.toList p a5 a6 a7 = (ok, P, A, C) := ⟨_, _, _, _, rfl⟩
      have HM : Hid (contM a0 a1 a2 s.data.toList p a5 a6 a7 = (ok, P, A, C)) := hM
      clear hsh hsh' hM hb1 hp0 hp1
      go_enter Try.func3, Try.ntmps3
      go_wp2_with fail
      refine (bytes_in a0 a1 a2 s p a5 a6 a7 a8 _ hs).mono ?_
      rintro e w' ⟨rfl, rfl⟩
      go_wp2_with fail
      refine HB.out.mono ?_
      rintro e w' ⟨rfl, rfl⟩
      clear HB
      go_wp2_with fail
      refine (zz_any a0 a1 a2 s p a5 a6 a7 a8 _ hs hp h0 h1 hc0 hc1 hl hu HSH ok P A C HM).mono ?_
      rintro e w2 ⟨rfl, HB2⟩
      go_wp2_with fail
      refine (contModel_any a0 a1 a2 s p a5 a6 a7 _ hs hp h0 h1 hc0 hc1 hl hu ok P A C HM).mono ?_
      rintro e w' ⟨rfl, rfl⟩
      go_wp2_with fail
      go_ret
      exact ⟨rfl, HB2⟩
  · go_enter Try.func3, Try.ntmps3
    go_wp2_with fail
    refine (bytes_out a0 a1 a2 s a4 a5 a6 a7 a8 _ hs).mono ?_
    rintro e w' ⟨rfl, rfl⟩
    go_wp2
    go_ret
    exact ⟨rfl, Below.refl _ _⟩

end Go.Proofs.Qxb6606447a
