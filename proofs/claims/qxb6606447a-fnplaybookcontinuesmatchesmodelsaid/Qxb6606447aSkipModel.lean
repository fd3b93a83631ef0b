/-
  Seat b6606447a: the contract of zzSkipModelPbB1.
-/
import Derived.Test.Qxb6606447aParts
namespace Go.Proofs.Qxb6606447a
open Go.ChangeShapes Go.WideShapes Go.ChangeAt Go.RowKit
open Plain

theorem mv_yes (L : List UInt8) (k : Nat) (R x : Int) (h : k < L.length) (hb : blk (L.getD k 0) = true) (hr : ¬ R < stB x (L.getD k 0)) : mv R x (L.drop k) = ((mv R (stB x (L.getD k 0)) (L.drop (k + 1))).1 + 1, (mv R (stB x (L.getD k 0)) (L.drop (k + 1))).2) := by
  rw [drop_cons L k h]; generalize L.getD k 0 = c at hb hr; simp [mv, hb, hr]
theorem mv_far (L : List UInt8) (k : Nat) (R x : Int) (h : k < L.length) (hb : blk (L.getD k 0) = true) (hr : R < stB x (L.getD k 0)) : mv R x (L.drop k) = (0, x) := by
  rw [drop_cons L k h]; generalize L.getD k 0 = c at hb hr; simp [mv, hb, hr]
theorem mv_no (L : List UInt8) (k : Nat) (R x : Int) (hb : k < L.length → blk (L.getD k 0) = false) : mv R x (L.drop k) = (0, x) := by
  by_cases h : k < L.length
  · have hb := hb h
    rw [drop_cons L k h]; generalize L.getD k 0 = c at hb; simp [mv, hb]
  · rw [drop_nil L k h]; rfl

/-- Where the model's loop stands. -/
def MvAt (L : List UInt8) (R x : Int) (k P : Nat) (A : Int) : Prop := k + (mv R x (L.drop k)).1 = P ∧ (mv R x (L.drop k)).2 = A

theorem MvAt.stop {L : List UInt8} {R x : Int} {k P : Nat} {A : Int} (h : MvAt L R x k P A) (hm : mv R x (L.drop k) = (0, x)) : k = P ∧ x = A := by
  obtain ⟨h1, h2⟩ := h
  rw [hm] at h1 h2
  exact ⟨h1, h2⟩
theorem MvAt.next {L : List UInt8} {R x : Int} {k P : Nat} {A : Int} (h : MvAt L R x k P A) (hk : k < L.length) (hb : blk (L.getD k 0) = true) (hr : ¬ R < stB x (L.getD k 0)) : MvAt L R (stB x (L.getD k 0)) (k + 1) P A := by
  obtain ⟨h1, h2⟩ := h
  rw [mv_yes L k R x hk hb hr] at h1 h2
  exact ⟨by simp only at h1; omega, h2⟩

theorem ret3 {k P : Nat} {x A R : Int} (h : k = P ∧ x = A) : Ending.returned (.tuple #[.int .i64 (k : Int), .int .i64 x, .int .i64 R]) = .returned (.tuple #[.int .i64 (P : Int), .int .i64 A, .int .i64 R]) := by rw [h.1, h.2]

set_option maxRecDepth 100000 in
set_option maxHeartbeats 1600000 in
theorem skipModel_any (s : ByteArray) (p : Nat) (at0 col cols : Int) (w : World) (hs : s.size ≤ 1048576) (hp : p ≤ s.size) (h0 : 0 ≤ at0) (h1 : at0 ≤ 1073741824) (hc0 : at0 ≤ col) (hc1 : col ≤ at0 + 4) (hl : -9223372036854775808 ≤ cols) (hu : cols ≤ 9223372036854775807)
    (P : Nat) (A R : Int) (HS : Hid (skM at0 col cols (s.data.toList.drop p) = (P - p, A, R) ∧ p ≤ P)) :
    Calls Try.prog 15 #[.string s, .int .i64 (p : Int), .int .i64 at0, .int .i64 col, .int .i64 cols] w fun e w' => e = .returned (.tuple #[.int .i64 (P : Int), .int .i64 A, .int .i64 R]) ∧ w = w' := by
  obtain ⟨E, hE⟩ : ∃ E, rEnd at0 (s.data.toList.drop p) = E := ⟨_, rfl⟩
  have HE : Hid (rEnd at0 (s.data.toList.drop p) = E) := hE
  have hEb := rEnd_ge (s.data.toList.drop p) at0 h0
  rw [hE] at hEb
  have hlen : (s.data.toList.drop p).length ≤ 1048576 := by simp; omega
  obtain ⟨hE0, hE1⟩ : at0 ≤ E ∧ E ≤ at0 + 4194304 := ⟨hEb.1, by have := hEb.2; omega⟩
  clear hEb hE hlen
  go_enter Try.func15, Try.ntmps15
  go_upto_if 21 with fail
  go_cut [13] (fun s13 wx => w = wx ∧ ∃ n0 : Int, s13 = .int .i64 n0 ∧ 0 ≤ n0 ∧ n0 ≤ 9223372036854775807 ∧ Hid (n0 = if cols < 0 then 0 else cols))
  case first =>
    by_cases hc : cols < 0
    · go_wp2
      go_meet
      case rel => exact ⟨rfl, 0, rfl, by omega, by omega, by show _ = _; rw [if_pos (by omega)]⟩
    · go_wp2
      go_meet
      case rel => exact ⟨rfl, cols, rfl, by omega, by omega, by show _ = _; rw [if_neg (by omega)]⟩
  case rest =>
  obtain ⟨rfl, n0, rfl, hn0, hn1, HN⟩ := hcut
  go_upto_if 30 with (go_at_call 14; refine (runEnd_any s p at0 _ hs hp h0 h1 E HE).mono ?_; rintro e w' ⟨rfl, rfl⟩)
  go_cut [13] (fun s13 wx => w = wx ∧ ∃ n1 : Int, s13 = .int .i64 n1 ∧ -8 ≤ n1 ∧ n1 ≤ E - col ∧ Hid (n1 = if E - col < n0 then E - col else n0))
  case first =>
    by_cases hc : E - col < n0
    · go_wp2
      go_meet
      case rel => exact ⟨rfl, E - col, rfl, by omega, by omega, by show _ = _; rw [if_pos (by omega)]⟩
    · go_wp2
      go_meet
      case rel => exact ⟨rfl, n0, rfl, by omega, by omega, by show _ = _; rw [if_neg (by omega)]⟩
  case rest =>
  obtain ⟨rfl, n1, rfl, hm0, hm1, HN1⟩ := hcut
  have HR : Hid (col + n1 = R) := by
    have h := congrArg (fun q => q.2.2) HS.out.1
    simp only [skM, reachM] at h
    rw [HE.out, ← HN.out, ← HN1.out] at h
    exact h
  have HM : Hid (MvAt s.data.toList R at0 p P A) := by
    have h := HS.out.1
    have hr : reachM at0 col cols (s.data.toList.drop p) = R := congrArg (fun q => q.2.2) h
    unfold skM at h
    rw [hr] at h
    simp only [Prod.mk.injEq] at h
    have := HS.out.2
    exact ⟨by omega, h.2.1⟩
  have hRR : col + n1 = R := HR.out
  clear HS HN HN1
  go_wp2_with fail
  go_loop [16, 17] (fun q v => ∃ (k : Nat) (x : Int), p ≤ k ∧ k ≤ s.size ∧ q = .int .i64 (k : Int) ∧ v = .int .i64 x ∧ 0 ≤ x ∧ x ≤ at0 + 4 * ((k : Int) - p) ∧ Hid (MvAt s.data.toList R x k P A)) (fun q _ => s.size - (intOf q).toNat)
  case atStart => exact ⟨p, at0, Nat.le_refl _, hp, rfl, rfl, h0, by omega, HM⟩
  case round =>
    obtain ⟨k, x, hpk, hk, rfl, rfl, hx0, hx1, HA⟩ := hrel
    by_cases hlt : k < s.size
    · have hkL : k < s.data.toList.length := by simpa using hlt
      have HG : Hid (s.data.toList.getD k 0 = s[k]) := getD_data s k hlt
      have hki : (k : Int) < (s.size : Int) := by omega
      cases hb : blk s[k]
      · have HE2 : Hid (k = P ∧ x = A) := HA.out.stop (mv_no _ k R x (fun _ => by rw [HG.out]; exact hb))
        go_wp2_with (go_at_call 24; refine (isBlank_any s[k] _).mono ?_; rintro e w' ⟨rfl, rfl⟩; rw [hb])
        go_ret3
        exact ⟨ret3 HE2.out, rfl⟩
      · have hst := stB_gt x s[k] hx0
        obtain ⟨y, hy⟩ : ∃ y, y = stB x s[k] := ⟨_, rfl⟩
        have HY : Hid (y = stB x s[k]) := hy
        rw [← hy] at hst
        clear hy
        by_cases hr : R < y
        · have HE2 : Hid (k = P ∧ x = A) := HA.out.stop (mv_far _ k R x hkL (by rw [HG.out]; exact hb) (by rw [HG.out, ← HY.out]; exact hr))
          go_wp2_with (first
            | (go_at_call 24; refine (isBlank_any s[k] _).mono ?_; rintro e w' ⟨rfl, rfl⟩; rw [hb])
            | (go_at_call 25; refine (step_any x s[k] _ hx0 (by omega)).mono ?_; rintro e w' ⟨rfl, rfl⟩; rw [← HY.out]))
          go_ret3
          exact ⟨ret3 HE2.out, rfl⟩
        · have HN : Hid (MvAt s.data.toList R y (k + 1) P A) := by
            have := HA.out.next hkL (by rw [HG.out]; exact hb) (by rw [HG.out, ← HY.out]; exact hr)
            rw [HG.out, ← HY.out] at this
            exact this
          go_wp2_with (first
            | (go_at_call 24; refine (isBlank_any s[k] _).mono ?_; rintro e w' ⟨rfl, rfl⟩; rw [hb])
            | (go_at_call 25; refine (step_any x s[k] _ hx0 (by omega)).mono ?_; rintro e w' ⟨rfl, rfl⟩; rw [← HY.out]))
          go_round
          case rel => exact ⟨k + 1, y, by omega, by omega, by go_num, rfl, by omega, by omega, HN⟩
          case measure => simp [intOf]; omega
    · have HE2 : Hid (k = P ∧ x = A) := HA.out.stop (mv_no _ k R x (fun h => absurd (by simpa using h) hlt))
      go_wp2
      go_ret3
      exact ⟨ret3 HE2.out, rfl⟩

end Go.Proofs.Qxb6606447a
