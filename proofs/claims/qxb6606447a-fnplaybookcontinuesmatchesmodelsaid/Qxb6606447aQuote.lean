/-
  Seat b6606447a: the contract of continues, a block quote.
-/
import Derived.Test.Qxb6606447aCont
namespace Go.Proofs.Qxb6606447a
open Go.ChangeShapes Go.WideShapes Go.ChangeAt Go.RowKit
open Plain

theorem Touch.set {cb : Nat} {a b : World} (h : Touch cb a b) (j : Nat) (v : Value) : Touch cb a (b.setCell ⟨cb, j, none⟩ v) :=
  h.trans (((Only.refl cb b).set j v).touch)

theorem Cur.setAll {w : World} {cb : Nat} {s : ByteArray} {pos at0 col fin run : Int} (h : Cur w cb s pos at0 col fin run) (k : Nat) (a c : Int) :
    Cur ((((((w.setCell ⟨cb, 0, none⟩ (.string s)).setCell ⟨cb, 1, none⟩ (.int .i64 ((k : Nat) : Int))).setCell ⟨cb, 2, none⟩ (.int .i64 a)).setCell ⟨cb, 3, none⟩ (.int .i64 c)).setCell ⟨cb, 4, none⟩ (.int .i64 fin)).setCell ⟨cb, 5, none⟩ (.int .i64 run)) cb s (k : Int) a c fin run := by
  have g0 : Cur (w.setCell ⟨cb, 0, none⟩ (.string s)) cb s pos at0 col fin run := heap_setCell_same w cb 0 _ 34 _ h
  have g1 := (((g0.set1 (c' := (k : Int))).set2 (c' := a)).set3 (c' := c))
  have g4 := heap_setCell_same _ cb 4 _ 34 (.int .i64 fin) g1
  exact heap_setCell_same _ cb 5 _ 34 (.int .i64 run) g4

set_option maxRecDepth 100000 in
set_option maxHeartbeats 1600000 in
theorem cont_quote (tb cb : Nat) (ind : Int) (empty : Bool) (s : ByteArray) (p : Nat) (at0 col fin run : Int) (w : World) (HT : Hid (Cont w tb false ind empty)) (HC : Hid (Cur w cb s (p : Int) at0 col fin run))
    (hs : s.size ≤ 1048576) (hp : p ≤ s.size) (h0 : 0 ≤ at0) (h1 : at0 ≤ 536870912) (hc0 : at0 ≤ col) (hc1 : col ≤ at0 + 4) (HSH : Hid (Shape at0 col (s.data.toList.drop p)))
    (ok : Bool) (P : Nat) (A C : Int) (HS : Hid (contM false ind empty s.data.toList p at0 col fin = (ok, P, A, C))) :
    Calls Try.prog 13 #[.pointer (some ⟨tb, 0, none⟩), .pointer (some ⟨cb, 0, none⟩)] w fun e w' => e = .returned (.bool ok) ∧ Hid (Cur w' cb s (P : Int) A C fin run) ∧ Hid (Touch cb w w') := by
  obtain ⟨d0, d1, d2⟩ := HT.out.cells
  obtain ⟨E, hE⟩ : ∃ E, rEnd at0 (s.data.toList.drop p) = E := ⟨_, rfl⟩
  have HE : Hid (rEnd at0 (s.data.toList.drop p) = E) := hE
  have hEb := rEnd_ge (s.data.toList.drop p) at0 h0
  rw [hE] at hEb
  have hlen : (s.data.toList.drop p).length ≤ 1048576 := by simp; omega
  obtain ⟨hE0, hE1⟩ : at0 ≤ E ∧ E ≤ at0 + 4194304 := ⟨hEb.1, by have := hEb.2; omega⟩
  have hEc : col ≤ E := by rw [← hE]; exact shape_le HSH.out
  obtain ⟨N, hN⟩ : ∃ N, Plain.ind col 4 at0 (s.data.toList.drop p) = N := ⟨_, rfl⟩
  have HN : Hid (Plain.ind col 4 at0 (s.data.toList.drop p) = N) := hN
  have HI := ind_law col 4 (s.data.toList.drop p) at0 h0
  rw [hN, hE] at HI
  obtain ⟨K, hK⟩ : ∃ K, rLen (s.data.toList.drop p) = K := ⟨_, rfl⟩
  have HK : Hid (rLen (s.data.toList.drop p) = K) := hK
  have hKb : p + K ≤ s.size := by
    have := rLen_le (s.data.toList.drop p)
    rw [hK] at this
    simp at this
    omega
  have hsz : s.data.toList.length = s.size := by simp
  have HS' : Hid ((if 3 < E - col ∨ s.size ≤ p + K ∨ s.data.toList.getD (p + K) 0 ≠ 62 then (false, p, at0, col) else (true, p + K + 1 + (skM (E + 1) (E + 1) 1 (s.data.toList.drop (p + K + 1))).1, (skM (E + 1) (E + 1) 1 (s.data.toList.drop (p + K + 1))).2)) = (ok, P, A, C)) := by
    have h := HS.out
    unfold contM at h
    rw [if_neg (by decide), hE, hK, hsz] at h
    exact h
  clear hEb hE hlen hN hK hsz HS
  by_cases h3 : 3 < E - col
  · have HF : Hid (false = ok ∧ (p = P ∧ at0 = A ∧ col = C)) := by
      have h := HS'.out
      rw [if_pos (.inl h3)] at h
      exact eq3 h
    have hN3 : 3 < N := by
      by_cases h : N < 4
      · have := HI.1.1 h; omega
      · omega
    clear HI HS'
    go_enter Try.func13, Try.ntmps13
    go_wp2_with fail
    refine (indent_any cb s p at0 col fin run 4 _ HC hs hp h0 (by omega) hc0 hc1 N HN).mono ?_
    rintro e w1 ⟨rfl, rfl⟩
    go_wp2
    go_ret
    exact ⟨ret_bool HF.out.1, HC.out.fit HF.out.2, Touch.refl _ _⟩
  · have hNE : N = E - col := HI.2 (HI.1.2 (by omega))
    subst hNE
    clear HI
    obtain ⟨c0, c1, c2, c3, c4, c5⟩ := HC.out.cells
    have HK1 : Hid (SkAt s.data.toList at0 col (E - col) p (p + K) E E) := by
      unfold SkAt
      have := sk_all HSH.out
      rw [HE.out, HK.out] at this
      rw [this]
      exact ⟨rfl, rfl⟩
    obtain ⟨b, hb⟩ : ∃ b, hasGt s (p + K) = b := ⟨_, rfl⟩
    have HBt : Hid (hasGt s (p + K) = b) := hb
    clear hb
    go_enter Try.func13, Try.ntmps13
    go_wp2_with fail
    refine (indent_any cb s p at0 col fin run 4 _ HC hs hp h0 (by omega) hc0 hc1 (E - col) HN).mono ?_
    rintro e w1 ⟨rfl, rfl⟩
    go_wp2_with fail
    obtain ⟨w2, hw2⟩ : ∃ w2, w2 = w1.alloc (.cells #[.string s, .int .i64 (p : Int), .int .i64 at0, .int .i64 col, .int .i64 fin, .int .i64 run] 34) := ⟨_, rfl⟩
    have HQ2 : Hid (Cur w2 w1.heap.size s (p : Int) at0 col fin run) := by rw [hw2]; exact heap_alloc_new w1 _
    have HT2 : Hid (Touch cb w1 w2) := by rw [hw2]; exact Touch.alloc cb w1 _
    have HC2 : Hid (Cur w2 cb s (p : Int) at0 col fin run) := by rw [hw2]; exact (heap_alloc_old w1 _ HC.out.lt).trans HC.out
    have hcq : cb < w1.heap.size := HC.out.lt
    have HL : Hid (cb < w1.heap.size) := hcq
    rw [← hw2]
    clear hw2 hcq c0 c1 c2 c3 c4 c5 d0 d1 d2 HC HT
    refine (skip_any w1.heap.size s p at0 col fin run (E - col) _ HQ2 hs hp h0 (by omega) hc0 hc1 (by omega) (by omega) (p + K) E E HK1).mono ?_
    rintro e w3 ⟨rfl, HQ3, HO3⟩
    have HC3 : Hid (Cur w3 cb s (p : Int) at0 col fin run) := (HO3.out.block cb (Nat.ne_of_lt HL.out)).trans HC2.out
    have HT3 : Hid (Touch cb w1 w3) := HO3.out.touch_new (Nat.le_refl _) HT2.out
    clear HO3 HQ2 HC2 HT2
    go_wp2_with fail
    refine (text_any w1.heap.size s (p + K) E E fin run _ HQ3 hKb).mono ?_
    rintro e w4 ⟨rfl, HS4⟩
    have HQ4 : Hid (Cur w4 w1.heap.size s ((p + K : Nat) : Int) E E fin run) := HQ3.out.still HS4.out
    have HC4 : Hid (Cur w4 cb s (p : Int) at0 col fin run) := HC3.out.still HS4.out
    have HT4 : Hid (Touch cb w1 w4) := (HS4.out.only w1.heap.size).touch_new (Nat.le_refl _) HT3.out
    clear HS4 HQ3 HC3 HT3
    go_wp2_with fail
    refine (hasPrefix_any s (p + K) _ hs hKb b HBt).mono ?_
    rintro e w5 ⟨rfl, rfl⟩
    cases b
    · have HF : Hid (false = ok ∧ (p = P ∧ at0 = A ∧ col = C)) := by
        have h := HS'.out
        have hb := HBt.out
        unfold hasGt at hb
        rw [if_pos (by
          by_cases hq : p + K < s.size
          · rw [decide_eq_true hq, Bool.true_and] at hb
            exact .inr (.inr (by simpa using hb))
          · exact .inr (.inl (by omega)))] at h
        exact eq3 h
      go_wp2
      go_ret
      exact ⟨ret_bool HF.out.1, HC4.out.fit HF.out.2, HT4⟩
    · obtain ⟨D, A', R', hD⟩ : ∃ D A' R', skM (E + 1) (E + 1) 1 (s.data.toList.drop (p + K + 1)) = (D, A', R') := ⟨_, _, _, rfl⟩
      have hbb : p + K < s.size ∧ s.data.toList.getD (p + K) 0 = 62 := by
        have hb := HBt.out
        unfold hasGt at hb
        simpa using hb
      have HF : Hid (true = ok ∧ (p + K + 1 + D = P ∧ A' = A ∧ R' = C)) := by
        have h := HS'.out
        rw [if_neg (by
          rintro (h' | h' | h')
          · omega
          · omega
          · exact h' hbb.2), hD] at h
        exact eq3 h
      have HK2 : Hid (SkAt s.data.toList (E + 1) (E + 1) 1 (p + K + 1) (p + K + 1 + D) A' R') := skAt_of ⟨by omega, .inl rfl⟩ hD
      have hpk : p + K < s.size := hbb.1
      clear hbb hD HS'
      go_wp2_with fail
      refine (take_any w1.heap.size s (p + K) E E fin run _ HQ4 (by omega) (by omega) (by omega)).mono ?_
      rintro e w6 ⟨rfl, HQ6, HO6⟩
      have HC6 : Hid (Cur w6 cb s (p : Int) at0 col fin run) := (HO6.out.block cb (Nat.ne_of_lt HL.out)).trans HC4.out
      have HT6 : Hid (Touch cb w1 w6) := HO6.out.touch_new (Nat.le_refl _) HT4.out
      clear HO6 HQ4 HC4 HT4
      go_wp2_with fail
      refine (skip_any w1.heap.size s (p + K + 1) (E + 1) (E + 1) fin run 1 _ HQ6 hs (by omega) (by omega) (by omega) (by omega) (by omega) (by omega) (by omega) (p + K + 1 + D) A' R' HK2).mono ?_
      rintro e w7 ⟨rfl, HQ7, HO7⟩
      have HC7 : Hid (Cur w7 cb s (p : Int) at0 col fin run) := (HO7.out.block cb (Nat.ne_of_lt HL.out)).trans HC6.out
      have HT7 : Hid (Touch cb w1 w7) := HO7.out.touch_new (Nat.le_refl _) HT6.out
      clear HO7 HQ6 HC6 HT6
      obtain ⟨q0, q1, q2, q3, q4, q5⟩ := HQ7.out.cells
      obtain ⟨c0, c1, c2, c3, c4, c5⟩ := HC7.out.cells
      have f0 := HC7.out.free 0
      have f1 := HC7.out.free 1
      have f2 := HC7.out.free 2
      have f3 := HC7.out.free 3
      have f4 := HC7.out.free 4
      have f5 := HC7.out.free 5
      go_wp2
      go_ret
      exact ⟨ret_bool HF.out.1, (HC7.out.setAll (p + K + 1 + D) A' R').fit HF.out.2, (((((HT7.out.set 0 _).set 1 _).set 2 _).set 3 _).set 4 _).set 5 _⟩

theorem cont_any (tb cb : Nat) (item : Bool) (ind : Int) (empty : Bool) (s : ByteArray) (p : Nat) (at0 col fin run : Int) (w : World) (HT : Hid (Cont w tb item ind empty)) (HC : Hid (Cur w cb s (p : Int) at0 col fin run))
    (hs : s.size ≤ 1048576) (hp : p ≤ s.size) (h0 : 0 ≤ at0) (h1 : at0 ≤ 536870912) (hc0 : at0 ≤ col) (hc1 : col ≤ at0 + 4) (hl : -9223372036854775808 ≤ ind) (hu : ind ≤ 9223372036854775807) (HSH : Hid (Shape at0 col (s.data.toList.drop p)))
    (ok : Bool) (P : Nat) (A C : Int) (HS : Hid (contM item ind empty s.data.toList p at0 col fin = (ok, P, A, C))) :
    Calls Try.prog 13 #[.pointer (some ⟨tb, 0, none⟩), .pointer (some ⟨cb, 0, none⟩)] w fun e w' => e = .returned (.bool ok) ∧ Hid (Cur w' cb s (P : Int) A C fin run) ∧ Hid (Touch cb w w') := by
  cases item
  · exact cont_quote tb cb ind empty s p at0 col fin run w HT HC hs hp h0 h1 hc0 hc1 HSH ok P A C HS
  · exact cont_item tb cb ind empty s p at0 col fin run w HT HC hs hp h0 h1 hc0 hc1 hl hu HSH ok P A C HS

end Go.Proofs.Qxb6606447a
