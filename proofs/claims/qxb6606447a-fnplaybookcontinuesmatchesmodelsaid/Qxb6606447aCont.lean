/-
  Seat b6606447a: the contract of continues, a list item.
-/
import Derived.Test.Qxb6606447aPrefix
namespace Go.Proofs.Qxb6606447a
open Go.ChangeShapes Go.WideShapes Go.ChangeAt Go.RowKit
open Plain

/-- The container at block 'tb'. -/
def Cont (w : World) (tb : Nat) (item : Bool) (ind : Int) (empty : Bool) : Prop := w.heap[tb]? = some (.cells #[.bool item, .int .i64 ind, .bool empty] 31 (0, 0))
theorem Cont.cells {w : World} {tb : Nat} {item : Bool} {ind : Int} {empty : Bool} (h : Cont w tb item ind empty) :
    w.cell? ⟨tb, 0, none⟩ = some (.bool item) ∧ w.cell? ⟨tb, 1, none⟩ = some (.int .i64 ind) ∧ w.cell? ⟨tb, 2, none⟩ = some (.bool empty) :=
  ⟨by rw [cell_of_row w tb 0 _ 31 (0, 0) h]; rfl, by rw [cell_of_row w tb 1 _ 31 (0, 0) h]; rfl, by rw [cell_of_row w tb 2 _ 31 (0, 0) h]; rfl⟩
theorem Cont.still {w w' : World} {tb : Nat} {item : Bool} {ind : Int} {empty : Bool} (h : Cont w tb item ind empty) (k : Still w w') : Cont w' tb item ind empty := by
  obtain ⟨m, rfl⟩ := k
  exact h

/-- Of the old blocks 'cb' alone has turned. -/
structure Touch (cb : Nat) (w w' : World) : Prop where
  os : w'.os = w.os
  tape : w'.tape = w.tape
  output : w'.output = w.output
  size : w.heap.size ≤ w'.heap.size
  block : ∀ k, k < w.heap.size → k ≠ cb → w'.heap[k]? = w.heap[k]?
theorem Touch.refl (cb : Nat) (w : World) : Touch cb w w := ⟨rfl, rfl, rfl, Nat.le_refl _, fun _ _ _ => rfl⟩
theorem Only.touch {cb : Nat} {w w' : World} (h : Only cb w w') : Touch cb w w' := ⟨h.os, h.tape, h.output, by rw [h.size]; exact Nat.le_refl _, fun k _ hk => h.block k hk⟩
theorem Touch.trans {cb : Nat} {a b c : World} (h : Touch cb a b) (k : Touch cb b c) : Touch cb a c :=
  ⟨k.os.trans h.os, k.tape.trans h.tape, k.output.trans h.output, Nat.le_trans h.size k.size, fun i hi hc => (k.block i (Nat.lt_of_lt_of_le hi h.size) hc).trans (h.block i hi hc)⟩
theorem Touch.alloc (cb : Nat) (w : World) (o : Obj) : Touch cb w (w.alloc o) := ⟨rfl, rfl, rfl, by simp, fun k hk _ => Below.heap_alloc _ _ _ hk⟩
theorem Only.touch_new {q cb : Nat} {w w' w0 : World} (h : Only q w w') (hq : w0.heap.size ≤ q) (k : Touch cb w0 w) : Touch cb w0 w' :=
  ⟨h.os.trans k.os, h.tape.trans k.tape, h.output.trans k.output, by rw [h.size]; exact k.size, fun i hi hc => (h.block i (by omega)).trans (k.block i hi hc)⟩

/-- What skip comes to, out of the model's words. -/
theorem skAt_of {L : List UInt8} {at0 col n : Int} {p D : Nat} {A C : Int} (hsh : Shape at0 col (L.drop p)) (h : skM at0 col n (L.drop p) = (D, A, C)) : SkAt L at0 col n p (p + D) A C := by
  unfold SkAt
  rw [sk_eq _ _ _ _ hsh, h]
  exact ⟨rfl, rfl⟩

theorem eq3 {ok : Bool} {k P : Nat} {x A c C : Int} {o : Bool} (h : (o, k, x, c) = (ok, P, A, C)) : o = ok ∧ (k = P ∧ x = A ∧ c = C) := by
  simp only [Prod.mk.injEq] at h
  exact h

theorem indent_quiet (cb : Nat) (s : ByteArray) (p : Nat) (at0 col fin run limit : Int) (w : World) (HC : Hid (Cur w cb s (p : Int) at0 col fin run)) (hs : s.size ≤ 1048576) (hp : p ≤ s.size) (h0 : 0 ≤ at0) (h1 : at0 ≤ 1073741824) (hc0 : at0 ≤ col) (hc1 : col ≤ at0 + 4) (N : Int) (HN : Hid (Plain.ind col limit at0 (s.data.toList.drop p) = N)) :
    ∀ n, Calls Try.prog 19 #[.pointer (some ⟨cb, 0, none⟩), .int .i64 limit] (w.drewN n) fun e w'' => e = .returned (.int .i64 N) ∧ ∃ m, w'' = w.drewN m :=
  fun n => Calls.quiet_of_same (indent_any cb s p at0 col fin run limit (w.drewN n) HC hs hp h0 h1 hc0 hc1 N HN)

set_option maxRecDepth 100000 in
set_option maxHeartbeats 1600000 in
theorem cont_item (tb cb : Nat) (ind : Int) (empty : Bool) (s : ByteArray) (p : Nat) (at0 col fin run : Int) (w : World) (HT : Hid (Cont w tb true ind empty)) (HC : Hid (Cur w cb s (p : Int) at0 col fin run))
    (hs : s.size ≤ 1048576) (hp : p ≤ s.size) (h0 : 0 ≤ at0) (h1 : at0 ≤ 536870912) (hc0 : at0 ≤ col) (hc1 : col ≤ at0 + 4) (hl : -9223372036854775808 ≤ ind) (hu : ind ≤ 9223372036854775807) (HSH : Hid (Shape at0 col (s.data.toList.drop p)))
    (ok : Bool) (P : Nat) (A C : Int) (HS : Hid (contM true ind empty s.data.toList p at0 col fin = (ok, P, A, C))) :
    Calls Try.prog 13 #[.pointer (some ⟨tb, 0, none⟩), .pointer (some ⟨cb, 0, none⟩)] w fun e w' => e = .returned (.bool ok) ∧ Hid (Cur w' cb s (P : Int) A C fin run) ∧ Hid (Touch cb w w') := by
  obtain ⟨d0, d1, d2⟩ := HT.out.cells
  obtain ⟨E, hE⟩ : ∃ E, rEnd at0 (s.data.toList.drop p) = E := ⟨_, rfl⟩
  have HE : Hid (rEnd at0 (s.data.toList.drop p) = E) := hE
  have hEb := rEnd_ge (s.data.toList.drop p) at0 h0
  rw [hE] at hEb
  have hlen : (s.data.toList.drop p).length ≤ 1048576 := by simp; omega
  obtain ⟨hE0, hE1⟩ : at0 ≤ E ∧ E ≤ at0 + 4194304 := ⟨hEb.1, by have := hEb.2; omega⟩
  obtain ⟨N, hN⟩ : ∃ N, Plain.ind col ind at0 (s.data.toList.drop p) = N := ⟨_, rfl⟩
  have HN : Hid (Plain.ind col ind at0 (s.data.toList.drop p) = N) := hN
  have HI := (ind_law col ind (s.data.toList.drop p) at0 h0).1
  rw [hN, hE] at HI
  have HI2 : Hid (N < ind ↔ E - col < ind) := HI
  clear hEb hE hlen hN HI
  by_cases hfin : fin ≤ (p : Int)
  · have HF : Hid ((!empty) = ok ∧ (p = P ∧ at0 = A ∧ col = C)) := by
      have h := HS.out
      unfold contM at h
      rw [if_pos rfl, if_pos hfin] at h
      exact eq3 h
    have hd : decide (fin ≤ (p : Int)) = true := decide_eq_true hfin
    clear HS HI2
    go_enter Try.func13, Try.ntmps13
    go_wp2_with fail
    refine (blank_any cb s (p : Int) at0 col fin run _ HC).mono ?_
    rintro e w1 ⟨rfl, HS1⟩
    rw [hd]
    have HT1 : Hid (Cont w1 tb true ind empty) := HT.out.still HS1.out
    have HC1 : Hid (Cur w1 cb s (p : Int) at0 col fin run) := HC.out.still HS1.out
    clear d0 d1 d2
    obtain ⟨d0, d1, d2⟩ := HT1.out.cells
    go_wp2
    go_ret
    exact ⟨ret_bool HF.out.1, HC1.out.fit HF.out.2, (HS1.out.only cb).touch⟩
  · have hd : decide (fin ≤ (p : Int)) = false := decide_eq_false hfin
    by_cases hi : E - col < ind
    · have HF : Hid (false = ok ∧ (p = P ∧ at0 = A ∧ col = C)) := by
        have h := HS.out
        unfold contM at h
        rw [if_pos rfl, if_neg hfin, HE.out, if_pos hi] at h
        exact eq3 h
      have hNi : N < ind := HI2.out.2 hi
      clear HS HI2 hfin
      go_enter Try.func13, Try.ntmps13
      go_wp2_with fail
      refine (blank_any cb s (p : Int) at0 col fin run _ HC).mono ?_
      rintro e w1 ⟨rfl, HS1⟩
      rw [hd]
      have HT1 : Hid (Cont w1 tb true ind empty) := HT.out.still HS1.out
      have HC1 : Hid (Cur w1 cb s (p : Int) at0 col fin run) := HC.out.still HS1.out
      clear d0 d1 d2
      obtain ⟨d0, d1, d2⟩ := HT1.out.cells
      go_wp2_with fail
      have HQ : Hid (∀ n, Calls Try.prog 19 #[.pointer (some ⟨cb, 0, none⟩), .int .i64 ind] (w1.drewN n) fun e w'' => e = .returned (.int .i64 N) ∧ ∃ m, w'' = w1.drewN m) := indent_quiet cb s p at0 col fin run ind w1 HC1 hs hp h0 (by omega) hc0 hc1 N HN
      go_quiet ((go_at_call 19; exact HQ.out _))
      go_wp2
      go_ret
      exact ⟨ret_bool HF.out.1, HC1.out.fit HF.out.2, ((HS1.out.only cb).drewN nq).touch⟩
    · obtain ⟨D, A', R', hD⟩ : ∃ D A' R', skM at0 col ind (s.data.toList.drop p) = (D, A', R') := ⟨_, _, _, rfl⟩
      have HF : Hid (true = ok ∧ (p + D = P ∧ A' = A ∧ R' = C)) := by
        have h := HS.out
        unfold contM at h
        rw [if_pos rfl, if_neg hfin, HE.out, if_neg hi, hD] at h
        exact eq3 h
      have HK : Hid (SkAt s.data.toList at0 col ind p (p + D) A' R') := skAt_of HSH.out hD
      have hNi : ¬ N < ind := fun h => hi (HI2.out.1 h)
      clear HS HI2 hD hfin
      go_enter Try.func13, Try.ntmps13
      go_wp2_with fail
      refine (blank_any cb s (p : Int) at0 col fin run _ HC).mono ?_
      rintro e w1 ⟨rfl, HS1⟩
      rw [hd]
      have HT1 : Hid (Cont w1 tb true ind empty) := HT.out.still HS1.out
      have HC1 : Hid (Cur w1 cb s (p : Int) at0 col fin run) := HC.out.still HS1.out
      clear d0 d1 d2
      obtain ⟨d0, d1, d2⟩ := HT1.out.cells
      go_wp2_with fail
      have HQ : Hid (∀ n, Calls Try.prog 19 #[.pointer (some ⟨cb, 0, none⟩), .int .i64 ind] (w1.drewN n) fun e w'' => e = .returned (.int .i64 N) ∧ ∃ m, w'' = w1.drewN m) := indent_quiet cb s p at0 col fin run ind w1 HC1 hs hp h0 (by omega) hc0 hc1 N HN
      go_quiet ((go_at_call 19; exact HQ.out _))
      obtain ⟨w2, hw2⟩ : ∃ w2, w2 = w1.drewN nq := ⟨_, rfl⟩
      have HC2 : Hid (Cur w2 cb s (p : Int) at0 col fin run) := by rw [hw2]; exact HC1
      have HT2 : Hid (Cont w2 tb true ind empty) := by rw [hw2]; exact HT1
      have HO2 : Hid (Only cb w w2) := by rw [hw2]; exact (HS1.out.only cb).drewN nq
      rw [← hw2]
      clear hw2 nq d0 d1 d2
      obtain ⟨d0, d1, d2⟩ := HT2.out.cells
      go_wp2_with fail
      refine (skip_any cb s p at0 col fin run ind _ HC2 hs hp h0 (by omega) hc0 hc1 hl (by omega) (p + D) A' R' HK).mono ?_
      rintro e w3 ⟨rfl, HC3, HO3⟩
      go_wp2
      go_ret
      exact ⟨ret_bool HF.out.1, HC3.out.fit HF.out.2, (HO2.out.trans HO3.out).touch⟩

end Go.Proofs.Qxb6606447a
