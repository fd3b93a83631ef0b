/-
  Seat b6606447a: the contract of ZZContinues.
-/
import Derived.Test.Qxb6606447aQuote
namespace Go.Proofs.Qxb6606447a
open Go.ChangeShapes Go.WideShapes Go.ChangeAt Go.RowKit
open Plain

set_option maxRecDepth 100000 in
set_option maxHeartbeats 1600000 in
theorem zz_any (item : Bool) (ind : Int) (empty : Bool) (s : ByteArray) (p : Nat) (at0 col fin run : Int) (w : World)
    (hs : s.size ≤ 1048576) (hp : p ≤ s.size) (h0 : 0 ≤ at0) (h1 : at0 ≤ 536870912) (hc0 : at0 ≤ col) (hc1 : col ≤ at0 + 4) (hl : -9223372036854775808 ≤ ind) (hu : ind ≤ 9223372036854775807) (HSH : Hid (Shape at0 col (s.data.toList.drop p)))
    (ok : Bool) (P : Nat) (A C : Int) (HS : Hid (contM item ind empty s.data.toList p at0 col fin = (ok, P, A, C))) :
    Calls Try.prog 8 #[.bool item, .int .i64 ind, .bool empty, .string s, .int .i64 (p : Int), .int .i64 at0, .int .i64 col, .int .i64 fin, .int .i64 run] w fun e w' =>
      e = .returned (.tuple #[.bool ok, .bool item, .int .i64 ind, .bool empty, .string s, .int .i64 (P : Int), .int .i64 A, .int .i64 C, .int .i64 fin, .int .i64 run]) ∧ Hid (Below w.heap.size w w') := by
  go_enter Try.func8, Try.ntmps8
  go_wp2_with fail
  obtain ⟨w2, hw2⟩ : ∃ w2, w2 = (w.alloc (.cells #[.bool item, .int .i64 ind, .bool empty] 31)).alloc (.cells #[.string s, .int .i64 (p : Int), .int .i64 at0, .int .i64 col, .int .i64 fin, .int .i64 run] 34) := ⟨_, rfl⟩
  have hz : (w.alloc (.cells #[.bool item, .int .i64 ind, .bool empty] 31)).heap.size = w.heap.size + 1 := by simp
  have HT2 : Hid (Cont w2 w.heap.size item ind empty) := by rw [hw2]; exact (heap_alloc_old _ _ (by rw [hz]; omega)).trans (heap_alloc_new w _)
  have HC2 : Hid (Cur w2 (w.heap.size + 1) s (p : Int) at0 col fin run) := by
    rw [hw2]
    have := heap_alloc_new (w.alloc (.cells #[.bool item, .int .i64 ind, .bool empty] 31)) (.cells #[.string s, .int .i64 (p : Int), .int .i64 at0, .int .i64 col, .int .i64 fin, .int .i64 run] 34)
    rw [hz] at this
    exact this
  have HB2 : Hid (Touch (w.heap.size + 1) w w2) := by rw [hw2]; exact (Touch.alloc _ w _).trans (Touch.alloc _ _ _)
  rw [← hw2]
  clear hw2 hz
  refine (cont_any w.heap.size (w.heap.size + 1) item ind empty s p at0 col fin run w2 HT2 HC2 hs hp h0 h1 hc0 hc1 hl hu HSH ok P A C HS).mono ?_
  rintro e w3 ⟨rfl, HC3, HB3⟩
  have HT3 : Hid (Cont w3 w.heap.size item ind empty) := (HB3.out.block _ (by have := HC2.out.lt; omega) (by omega)).trans HT2.out
  have HW3 : Hid (Touch (w.heap.size + 1) w w3) := HB2.out.trans HB3.out
  clear HB2 HB3 HT2 HC2 HS HSH
  obtain ⟨d0, d1, d2⟩ := HT3.out.cells
  obtain ⟨c0, c1, c2, c3, c4, c5⟩ := HC3.out.cells
  go_wp2
  go_quiet (fail)
  go_wp2
  exact bodyPost_ret (v := .tuple #[.bool ok, .bool item, .int .i64 ind, .bool empty, .string s, .int .i64 (P : Int), .int .i64 A, .int .i64 C, .int .i64 fin, .int .i64 run]) (by simp [results, Try.results8, go_sem]) rfl ⟨rfl, HW3.out.os, HW3.out.tape, HW3.out.output, HW3.out.size, fun k hk => HW3.out.block k hk (by omega)⟩

end Go.Proofs.Qxb6606447a
