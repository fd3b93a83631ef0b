/-
  Seat b6606447a: the contracts of the model's functions.
-/
import Derived.Test.Qxb6606447aRows
import Derived.Test.Qxb6606447aPlain
import Derived.WalkKit
import Derived.ProofKit
import Derived.WalkSpells
import Derived.WalkLawsBesides
import Derived.Below
import Derived.OpenShut
import Derived.Deep.QuietTactic
import Derived.BigQuiet
import Derived.Deep.DeepCutAuto
namespace Go.Proofs.Qxb6606447a
open Go.ChangeShapes Go.WideShapes Go.ChangeAt Go.RowKit
open Plain

theorem ret_bool {a b : Bool} (h : a = b) : Ending.returned (.bool a) = .returned (.bool b) := by rw [h]
theorem ret_int {k : IntKind} {a b : Int} (h : a = b) : Ending.returned (.int k a) = .returned (.int k b) := by rw [h]

theorem eq_int (c : UInt8) (n : Nat) (hn : n < 256) : c = UInt8.ofNat n ↔ (c.toNat : Int) = (n : Int) := by
  rw [← UInt8.toNat_inj, UInt8.toNat_ofNat']
  omega
theorem eq9 {c : UInt8} : c = 9 ↔ (c.toNat : Int) = 9 := eq_int c 9 (by omega)
theorem eq32 {c : UInt8} : c = 32 ↔ (c.toNat : Int) = 32 := eq_int c 32 (by omega)
theorem eq62 {c : UInt8} : c = 62 ↔ (c.toNat : Int) = 62 := eq_int c 62 (by omega)
theorem blk_int (c : UInt8) : blk c = decide ((c.toNat : Int) = 32 ∨ (c.toNat : Int) = 9) := by
  unfold blk
  rw [Bool.eq_iff_iff]
  simp only [Bool.or_eq_true, beq_iff_eq, decide_eq_true_eq, eq9, eq32]

theorem getD_data (s : ByteArray) (k : Nat) (h : k < s.size) : s.data.toList.getD k 0 = s[k] := by
  rw [List.getD_eq_getElem?_getD, List.getElem?_eq_getElem (by simpa using h)]; rfl

set_option maxHeartbeats 400000 in
theorem isBlank_any (c : UInt8) (w : World) :
    Calls Try.prog 24 #[.int .u8 (c.toNat : Int)] w fun e w' => e = .returned (.bool (blk c)) ∧ w = w' := by
  have hq := blk_int c
  by_cases h1 : (c.toNat : Int) = 32
  · have HW : Hid (blk c = true) := by show _ = _; rw [hq]; exact decide_eq_true (by omega)
    have h1 : ((c.toNat : Int) == 32) = true := by simpa using h1
    clear hq
    go_enter Try.func24, Try.ntmps24
    go_wp2
    go_ret
    exact ⟨ret_bool HW.out.symm, rfl⟩
  have h1' : ((c.toNat : Int) == 32) = false := by simpa using h1
  by_cases h2 : (c.toNat : Int) = 9
  · have HW : Hid (blk c = true) := by show _ = _; rw [hq]; exact decide_eq_true (by omega)
    have h2 : ((c.toNat : Int) == 9) = true := by simpa using h2
    clear hq h1
    go_enter Try.func24, Try.ntmps24
    go_wp2
    go_ret
    exact ⟨ret_bool HW.out.symm, rfl⟩
  have h2' : ((c.toNat : Int) == 9) = false := by simpa using h2
  have HW : Hid (blk c = false) := by show _ = _; rw [hq]; exact decide_eq_false (by omega)
  clear hq h1 h2
  go_enter Try.func24, Try.ntmps24
  go_wp2
  go_ret
  exact ⟨ret_bool HW.out.symm, rfl⟩

set_option maxHeartbeats 400000 in
theorem nextStop_any (x : Int) (w : World) (h0 : 0 ≤ x) (h1 : x ≤ 1099511627776) :
    Calls Try.prog 17 #[.int .i64 x] w fun e w' => e = .returned (.int .i64 (stB x 9)) ∧ w = w' := by
  have HS : Hid (stB x 9 = (x / 4 + 1) * 4) := by unfold stB; rw [if_pos rfl]; rfl
  go_enter Try.func17, Try.ntmps17
  go_wp2
  go_ret
  exact ⟨ret_int (a := (x / 4 + 1) * 4) HS.out.symm, rfl⟩

set_option maxHeartbeats 400000 in
theorem step_any (x : Int) (b : UInt8) (w : World) (h0 : 0 ≤ x) (h1 : x ≤ 1099511627776) :
    Calls Try.prog 25 #[.int .i64 x, .int .u8 (b.toNat : Int)] w fun e w' => e = .returned (.int .i64 (stB x b)) ∧ w = w' := by
  by_cases hb : (b.toNat : Int) = 9
  · have HB : Hid (b = 9) := eq9.2 hb
    have hb' : ((b.toNat : Int) == 9) = true := by simpa using hb
    clear hb
    go_enter Try.func25, Try.ntmps25
    go_wp2_with (go_at_call 17; refine (nextStop_any x _ h0 h1).mono ?_; rintro e w' ⟨rfl, rfl⟩)
    go_ret
    exact ⟨ret_int (by rw [HB.out]), rfl⟩
  · have HB : Hid (stB x b = x + 1) := by unfold stB; rw [if_neg (fun e => hb (eq9.1 e))]; rfl
    have hb' : ((b.toNat : Int) == 9) = false := by simpa using hb
    clear hb
    go_enter Try.func25, Try.ntmps25
    go_wp2
    go_ret
    exact ⟨ret_int HB.out.symm, rfl⟩

theorem rEnd_yes (L : List UInt8) (k : Nat) (x : Int) (h : k < L.length) (hb : blk (L.getD k 0) = true) : rEnd x (L.drop k) = rEnd (stB x (L.getD k 0)) (L.drop (k + 1)) := by
  rw [drop_cons L k h]; generalize L.getD k 0 = c at hb; simp [rEnd, hb]
theorem rEnd_no (L : List UInt8) (k : Nat) (x : Int) (hb : k < L.length → blk (L.getD k 0) = false) : rEnd x (L.drop k) = x := by
  by_cases h : k < L.length
  · have hb := hb h
    rw [drop_cons L k h]; generalize L.getD k 0 = c at hb; simp [rEnd, hb]
  · rw [drop_nil L k h]; rfl
theorem rLen_yes (L : List UInt8) (k : Nat) (h : k < L.length) (hb : blk (L.getD k 0) = true) : rLen (L.drop k) = rLen (L.drop (k + 1)) + 1 := by
  rw [drop_cons L k h]; generalize L.getD k 0 = c at hb; simp [rLen, hb]
theorem rLen_no (L : List UInt8) (k : Nat) (hb : k < L.length → blk (L.getD k 0) = false) : rLen (L.drop k) = 0 := by
  by_cases h : k < L.length
  · have hb := hb h
    rw [drop_cons L k h]; generalize L.getD k 0 = c at hb; simp [rLen, hb]
  · rw [drop_nil L k h]; rfl

set_option maxHeartbeats 800000 in
theorem runEnd_any (s : ByteArray) (p : Nat) (at0 : Int) (w : World) (hs : s.size ≤ 1048576) (hp : p ≤ s.size) (h0 : 0 ≤ at0) (h1 : at0 ≤ 1073741824) (E : Int) (HE : Hid (rEnd at0 (s.data.toList.drop p) = E)) :
    Calls Try.prog 14 #[.string s, .int .i64 (p : Int), .int .i64 at0] w fun e w' => e = .returned (.int .i64 E) ∧ w = w' := by
  go_enter Try.func14, Try.ntmps14
  go_wp2
  go_loop [7, 8] (fun b i => ∃ (k : Nat) (x : Int), p ≤ k ∧ k ≤ s.size ∧ i = .int .i64 k ∧ b = .int .i64 x ∧ 0 ≤ x ∧ x ≤ at0 + 4 * ((k : Int) - p) ∧ Hid (rEnd x (s.data.toList.drop k) = E)) (fun _ i => s.size - (intOf i).toNat)
  case atStart => exact ⟨p, at0, Nat.le_refl _, hp, rfl, rfl, h0, by omega, HE⟩
  case round =>
    obtain ⟨k, x, hpk, hk, rfl, rfl, hx0, hx1, HR⟩ := hrel
    by_cases hlt : k < s.size
    · have hkL : k < s.data.toList.length := by simpa using hlt
      have HG : Hid (s.data.toList.getD k 0 = s[k]) := getD_data s k hlt
      have hki : (k : Int) < (s.size : Int) := by omega
      cases hb : blk s[k]
      · have HE2 : Hid (x = E) := by
          have := HR.out
          rw [rEnd_no _ k x (fun _ => by rw [HG.out]; exact hb)] at this
          exact this
        go_wp2_with (go_at_call 24; refine (isBlank_any s[k] _).mono ?_; rintro e w' ⟨rfl, rfl⟩; rw [hb])
        go_ret
        exact ⟨ret_int HE2.out, rfl⟩
      · have HE2 : Hid (rEnd (stB x s[k]) (s.data.toList.drop (k + 1)) = E) := by
          have := HR.out
          rw [rEnd_yes _ k x hkL (by rw [HG.out]; exact hb), HG.out] at this
          exact this
        have hst := stB_gt x s[k] hx0
        obtain ⟨y, hy⟩ : ∃ y, y = stB x s[k] := ⟨_, rfl⟩
        have HY : Hid (y = stB x s[k]) := hy
        rw [← hy] at hst HE2
        clear hy
        go_wp2_with (first
          | (go_at_call 24; refine (isBlank_any s[k] _).mono ?_; rintro e w' ⟨rfl, rfl⟩; rw [hb])
          | (go_at_call 25; refine (step_any x s[k] _ hx0 (by omega)).mono ?_; rintro e w' ⟨rfl, rfl⟩; rw [← HY.out]))
        go_round
        case rel => exact ⟨k + 1, y, by omega, by omega, by go_num, rfl, by omega, by omega, HE2⟩
        case measure => simp [intOf]; omega
    · have HE2 : Hid (x = E) := by
        have := HR.out
        rw [rEnd_no _ k x (fun h => absurd (by simpa using h) hlt)] at this
        exact this
      go_wp2
      go_ret
      exact ⟨ret_int HE2.out, rfl⟩

set_option maxHeartbeats 800000 in
theorem runLen_any (s : ByteArray) (p : Nat) (w : World) (hs : s.size ≤ 1048576) (hp : p ≤ s.size) (N : Nat) (HN : Hid (rLen (s.data.toList.drop p) = N)) :
    Calls Try.prog 16 #[.string s, .int .i64 (p : Int)] w fun e w' => e = .returned (.int .i64 (N : Int)) ∧ w = w' := by
  go_enter Try.func16, Try.ntmps16
  go_wp2
  go_loop [5, 6] (fun b i => ∃ k x : Nat, k ≤ s.size ∧ i = .int .i64 k ∧ b = .int .i64 (x : Int) ∧ x ≤ k ∧ Hid (x + rLen (s.data.toList.drop k) = N)) (fun _ i => s.size - (intOf i).toNat)
  case atStart => exact ⟨p, 0, hp, rfl, rfl, by omega, by show _ = _; rw [Nat.zero_add]; exact HN⟩
  case round =>
    obtain ⟨k, x, hk, rfl, rfl, hxk, HR⟩ := hrel
    by_cases hlt : k < s.size
    · have hkL : k < s.data.toList.length := by simpa using hlt
      have HG : Hid (s.data.toList.getD k 0 = s[k]) := getD_data s k hlt
      have hki : (k : Int) < (s.size : Int) := by omega
      cases hb : blk s[k]
      · have HE2 : Hid (x = N) := by
          have := HR.out
          rw [rLen_no _ k (fun _ => by rw [HG.out]; exact hb)] at this
          exact this
        go_wp2_with (go_at_call 24; refine (isBlank_any s[k] _).mono ?_; rintro e w' ⟨rfl, rfl⟩; rw [hb])
        go_ret
        exact ⟨ret_int (by rw [HE2.out]), rfl⟩
      · have HE2 : Hid (x + 1 + rLen (s.data.toList.drop (k + 1)) = N) := by
          have := HR.out
          rw [rLen_yes _ k hkL (by rw [HG.out]; exact hb)] at this
          show _ = _
          omega
        go_wp2_with (go_at_call 24; refine (isBlank_any s[k] _).mono ?_; rintro e w' ⟨rfl, rfl⟩; rw [hb])
        go_round
        case rel => exact ⟨k + 1, x + 1, by omega, by go_num, by go_num, by omega, HE2⟩
        case measure => simp [intOf]; omega
    · have HE2 : Hid (x = N) := by
        have := HR.out
        rw [rLen_no _ k (fun h => absurd (by simpa using h) hlt)] at this
        exact this
      go_wp2
      go_ret
      exact ⟨ret_int (by rw [HE2.out]), rfl⟩

end Go.Proofs.Qxb6606447a
