/-
  Seat b6606447a: a cursor in memory; the contracts of blank, indent, text, take.
-/
import Derived.Test.Qxb6606447aContModel
namespace Go.Proofs.Qxb6606447a
open Go.ChangeShapes Go.WideShapes Go.ChangeAt Go.RowKit
open Plain

/-- The cursor at block 'cb'. -/
def Cur (w : World) (cb : Nat) (s : ByteArray) (pos at0 col fin run : Int) : Prop :=
  w.heap[cb]? = some (.cells #[.string s, .int .i64 pos, .int .i64 at0, .int .i64 col, .int .i64 fin, .int .i64 run] 34 (0, 0))

theorem Cur.cells {w : World} {cb : Nat} {s : ByteArray} {pos at0 col fin run : Int} (h : Cur w cb s pos at0 col fin run) :
    w.cell? ⟨cb, 0, none⟩ = some (.string s) ∧ w.cell? ⟨cb, 1, none⟩ = some (.int .i64 pos) ∧ w.cell? ⟨cb, 2, none⟩ = some (.int .i64 at0) ∧ w.cell? ⟨cb, 3, none⟩ = some (.int .i64 col) ∧ w.cell? ⟨cb, 4, none⟩ = some (.int .i64 fin) ∧ w.cell? ⟨cb, 5, none⟩ = some (.int .i64 run) :=
  ⟨by rw [cell_of_row w cb 0 _ 34 (0, 0) h]; rfl, by rw [cell_of_row w cb 1 _ 34 (0, 0) h]; rfl, by rw [cell_of_row w cb 2 _ 34 (0, 0) h]; rfl, by rw [cell_of_row w cb 3 _ 34 (0, 0) h]; rfl, by rw [cell_of_row w cb 4 _ 34 (0, 0) h]; rfl, by rw [cell_of_row w cb 5 _ 34 (0, 0) h]; rfl⟩
theorem Cur.free {w : World} {cb : Nat} {s : ByteArray} {pos at0 col fin run : Int} (h : Cur w cb s pos at0 col fin run) (j : Nat) : w.frozen? ⟨cb, j, none⟩ = false := frozen_of_row w cb j _ 34 h
theorem Cur.lt {w : World} {cb : Nat} {s : ByteArray} {pos at0 col fin run : Int} (h : Cur w cb s pos at0 col fin run) : cb < w.heap.size := (Array.getElem?_eq_some_iff.1 h).1

/-- Nothing but block 'cb' has turned. -/
structure Only (cb : Nat) (w w' : World) : Prop where
  os : w'.os = w.os
  tape : w'.tape = w.tape
  output : w'.output = w.output
  size : w'.heap.size = w.heap.size
  block : ∀ k, k ≠ cb → w'.heap[k]? = w.heap[k]?

theorem Only.refl (cb : Nat) (w : World) : Only cb w w := ⟨rfl, rfl, rfl, rfl, fun _ _ => rfl⟩
theorem Only.trans {cb : Nat} {a b c : World} (h : Only cb a b) (k : Only cb b c) : Only cb a c :=
  ⟨k.os.trans h.os, k.tape.trans h.tape, k.output.trans h.output, k.size.trans h.size, fun i hi => (k.block i hi).trans (h.block i hi)⟩
theorem Only.drewN {cb : Nat} {a b : World} (h : Only cb a b) (n : Nat) : Only cb a (b.drewN n) := ⟨h.os, h.tape, h.output, h.size, h.block⟩
theorem Only.drew {cb : Nat} {a b : World} (h : Only cb a b) : Only cb a b.drew := ⟨h.os, h.tape, h.output, h.size, h.block⟩
theorem Only.set {cb : Nat} {a b : World} (h : Only cb a b) (j : Nat) (v : Value) : Only cb a (b.setCell ⟨cb, j, none⟩ v) :=
  h.trans ⟨rfl, rfl, rfl, by simp [World.setCell], fun k hk => Below.heap_setCell _ _ _ _ hk⟩
theorem Only.below {cb : Nat} {a b : World} (h : Only cb a b) {B : Nat} (hB : B ≤ cb) : Below B a b :=
  ⟨h.os, h.tape, h.output, by rw [h.size]; exact Nat.le_refl _, fun k hk => h.block k (by omega)⟩

/-- The world but for draws. -/
def Still (w w' : World) : Prop := ∃ m, w' = w.drewN m
theorem Still.only {w w' : World} (h : Still w w') (cb : Nat) : Only cb w w' := by
  obtain ⟨m, rfl⟩ := h
  exact (Only.refl cb w).drewN m
theorem Cur.still {w w' : World} {cb : Nat} {s : ByteArray} {pos at0 col fin run : Int} (h : Cur w cb s pos at0 col fin run) (k : Still w w') : Cur w' cb s pos at0 col fin run := by
  obtain ⟨m, rfl⟩ := k
  exact h

set_option maxHeartbeats 400000 in
theorem blank_any (cb : Nat) (s : ByteArray) (pos at0 col fin run : Int) (w : World) (HC : Hid (Cur w cb s pos at0 col fin run)) :
    Calls Try.prog 18 #[.pointer (some ⟨cb, 0, none⟩)] w fun e w' => e = .returned (.bool (decide (fin ≤ pos))) ∧ Hid (Still w w') := by
  obtain ⟨c0, c1, c2, c3, c4, c5⟩ := HC.out.cells
  go_enter Try.func18, Try.ntmps18
  go_wp2
  go_quiet (fail)
  go_wp2
  go_ret
  exact ⟨rfl, nq, rfl⟩

set_option maxHeartbeats 400000 in
theorem text_any (cb : Nat) (s : ByteArray) (p : Nat) (at0 col fin run : Int) (w : World) (HC : Hid (Cur w cb s (p : Int) at0 col fin run)) (hp : p ≤ s.size) :
    Calls Try.prog 22 #[.pointer (some ⟨cb, 0, none⟩)] w fun e w' => e = .returned (.string (s.extract p s.size)) ∧ Hid (Still w w') := by
  obtain ⟨c0, c1, c2, c3, c4, c5⟩ := HC.out.cells
  have hp0 : (0 : Int) ≤ (p : Int) := by omega
  have hp1 : (p : Int) ≤ (s.size : Int) := by omega
  go_enter Try.func22, Try.ntmps22
  go_wp2
  go_quiet (fail)
  go_wp2
  go_ret
  exact ⟨rfl, nq, rfl⟩

theorem Cur.set3 {w : World} {cb : Nat} {s : ByteArray} {pos at0 col fin run c' : Int} (h : Cur w cb s pos at0 col fin run) : Cur (w.setCell ⟨cb, 3, none⟩ (.int .i64 c')) cb s pos at0 c' fin run := heap_setCell_same w cb 3 _ 34 _ h
theorem Cur.set1 {w : World} {cb : Nat} {s : ByteArray} {pos at0 col fin run c' : Int} (h : Cur w cb s pos at0 col fin run) : Cur (w.setCell ⟨cb, 1, none⟩ (.int .i64 c')) cb s c' at0 col fin run := heap_setCell_same w cb 1 _ 34 _ h
theorem Cur.set2 {w : World} {cb : Nat} {s : ByteArray} {pos at0 col fin run c' : Int} (h : Cur w cb s pos at0 col fin run) : Cur (w.setCell ⟨cb, 2, none⟩ (.int .i64 c')) cb s pos c' col fin run := heap_setCell_same w cb 2 _ 34 _ h

set_option maxHeartbeats 800000 in
theorem take_any (cb : Nat) (s : ByteArray) (p : Nat) (at0 col fin run : Int) (w : World) (HC : Hid (Cur w cb s (p : Int) at0 col fin run)) (hp : p ≤ 1048576) (h0 : 0 ≤ at0) (h1 : at0 ≤ 1073741824) :
    Calls Try.prog 23 #[.pointer (some ⟨cb, 0, none⟩), .int .i64 1] w fun e w' => e = .returned (.tuple #[]) ∧ Hid (Cur w' cb s ((p + 1 : Nat) : Int) (at0 + 1) (at0 + 1) fin run) ∧ Hid (Only cb w w') := by
  obtain ⟨c0, c1, c2, c3, c4, c5⟩ := HC.out.cells
  have f1 := HC.out.free 1
  have f2 := HC.out.free 2
  have f3 := HC.out.free 3
  go_enter Try.func23, Try.ntmps23
  go_wp2
  go_end0
  exact ⟨rfl, ((HC.out.set1).set2).set3, (((Only.refl cb w).set 1 _).set 2 _).set 3 _⟩

end Go.Proofs.Qxb6606447a
