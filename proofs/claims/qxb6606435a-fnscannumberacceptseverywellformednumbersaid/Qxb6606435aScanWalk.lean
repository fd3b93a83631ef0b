/-
  Seat b6606435a: the walk of scanNumber.
-/
import Derived.Test.Qxb6606435aScan
namespace Go.Proofs.Qxb6606435a
open Go.ChangeShapes Go.WideShapes Go.ChangeAt Go.RowKit
open Plain

set_option maxRecDepth 100000 in
set_option maxHeartbeats 3200000 in
theorem scan_any (a : Option Addr) (n cap i : Nat) (L : List UInt8) (w : World) (HB : Hid (Bs w a n L)) (hn : n ≤ 2097152) (hi : i < n) (j : Nat) (ok : Bool) (HJ : Hid (Ends L i j ok)) :
    Calls Try.prog 12 #[.slice a n cap, .int .i64 i] w fun e w' => e = .returned (.tuple #[.int .i64 (j : Int), .bool ok]) ∧ w = w' := by
  obtain ⟨b, off, rfl, hci⟩ := HB.out.at hi
  obtain ⟨d, hd⟩ : ∃ d, d = L.getD i 0 := ⟨_, rfl⟩
  rw [← hd] at hci
  have HD : Hid (d = L.getD i 0) := hd
  have hii : (i : Int) < (n : Int) := by omega
  have HL : Hid (L.length = n) := HB.out.1
  clear hd
  go_enter Try.func12, Try.ntmps12
  go_upto_if 12 with fail
  go_cut [1] (fun s1 wx => w = wx ∧ ∃ k : Nat, k ≤ n ∧ s1 = .int .i64 k ∧ Hid (Mid0 L i k))
  case first =>
    by_cases h45 : (d.toNat : Int) = 45
    · have HM : Hid (Mid0 L i (i + 1)) := mid0_minus (by rw [HL.out]; exact hi) (by rw [← HD.out]; exact eq45.2 h45)
      have h45' : ((d.toNat : Int) == 45) = true := by simpa using h45
      clear h45
      go_wp2
      go_meet
      case rel => exact ⟨rfl, i + 1, by omega, by go_num, HM⟩
    · have HM : Hid (Mid0 L i i) := mid0_plain (by rw [HL.out]; exact hi) (by rw [← HD.out]; exact fun e => h45 (eq45.1 e))
      have h45' : ((d.toNat : Int) == 45) = false := by simpa using h45
      clear h45
      go_wp2
      go_meet
      case rel => exact ⟨rfl, i, by omega, rfl, HM⟩
  case rest =>
  obtain ⟨rfl, k, hk, rfl, H0⟩ := hcut
  clear hci
  rename_i hrest
  refine hrest _ _ ?_
  clear hrest HD d hii
  refine wp_seq_k ?_
  intro K2 hK2
  go_cut [1] (fun s1 wx => w = wx ∧ ∃ k : Nat, k ≤ n ∧ s1 = .int .i64 k ∧ Hid (Mid1 L i k))
  case first =>
    by_cases hkn : k < n
    · obtain ⟨b', off', e', hck⟩ := HB.out.at hkn
      cases e'
      have hkL : k < L.length := by rw [HL.out]; exact hkn
      obtain ⟨c, hc⟩ : ∃ c, c = L.getD k 0 := ⟨_, rfl⟩
      rw [← hc] at hck
      have HC : Hid (c = L.getD k 0) := hc
      have hki : (k : Int) < (n : Int) := by omega
      have hkne : ((k : Int) == (n : Int)) = false := by simp; omega
      clear hc
      by_cases h48 : (c.toNat : Int) = 48
      · have HM : Hid (Mid1 L i (k + 1)) := mid0_zero H0.out hkL (by rw [← HC.out]; exact eq48.2 h48)
        have h48' : ((c.toNat : Int) == 48) = true := by simpa using h48
        clear h48
        go_wp2
        go_meet
        case rel => exact ⟨rfl, k + 1, by omega, by go_num, HM⟩
      · have h48' : ((c.toNat : Int) == 48) = false := by simpa using h48
        have HC48 : Hid (L.getD k 0 ≠ 48) := by rw [← HC.out]; exact fun e => h48 (eq48.1 e)
        by_cases h1 : 49 ≤ (c.toNat : Int)
        · by_cases h2 : (c.toNat : Int) ≤ 57
          · have HG : Hid (dig (L.getD k 0) = true) := by rw [← HC.out]; exact dig_yes ⟨by omega, h2⟩
            obtain ⟨j1, hj1⟩ : ∃ j1, k + skipD (L.drop k) = j1 := ⟨_, rfl⟩
            have HM : Hid (Mid1 L i j1) := by rw [← hj1]; exact mid0_digits H0.out hkL HC48.out HG.out
            have HJ1 : Hid (k + skipD (L.drop k) = j1) := hj1
            have hj1n : j1 ≤ n := by have := skipD_bound L k (by omega); rw [HL.out] at this; omega
            clear hj1 h48
            go_wp2_with (go_at_call 13; refine (skip_any (some ⟨b, off, none⟩) n cap k L _ HB hn hk j1 HJ1).mono ?_; rintro e w' ⟨rfl, rfl⟩)
            go_meet
            case rel => exact ⟨rfl, j1, hj1n, rfl, HM⟩
          · have HE : Hid (Ends L i k false) := mid0_no H0.out hkL HC48.out (by rw [← HC.out]; exact dig_no (by omega))
            clear h48
            go_wp2
            go_ret2
            exact ⟨ret_two (HJ.out.one HE.out), rfl⟩
        · have HE : Hid (Ends L i k false) := mid0_no H0.out hkL HC48.out (by rw [← HC.out]; exact dig_no (by omega))
          clear h48
          go_wp2
          go_ret2
          exact ⟨ret_two (HJ.out.one HE.out), rfl⟩
    · have hkne : ((k : Int) == (n : Int)) = true := by simp; omega
      have HE : Hid (Ends L i k false) := mid0_end H0.out (by rw [HL.out]; omega)
      go_wp2
      go_ret2
      exact ⟨ret_two (HJ.out.one HE.out), rfl⟩
  case rest =>
  clear H0 hk k
  obtain ⟨rfl, k, hk, rfl, H1⟩ := hcut
  refine hK2 _ _ ?_
  clear hK2 K2
  refine wp_seq_k ?_
  intro K3 hK3
  go_cut [1] (fun s1 wx => w = wx ∧ ∃ k : Nat, k ≤ n ∧ s1 = .int .i64 k ∧ Hid (Mid2 L i k))
  case first =>
    by_cases hkn : k < n
    · obtain ⟨b', off', e', hck⟩ := HB.out.at hkn
      cases e'
      have hkL : k < L.length := by rw [HL.out]; exact hkn
      obtain ⟨c, hc⟩ : ∃ c, c = L.getD k 0 := ⟨_, rfl⟩
      rw [← hc] at hck
      have HC : Hid (c = L.getD k 0) := hc
      have hki : (k : Int) < (n : Int) := by omega
      clear hc
      by_cases h46 : (c.toNat : Int) = 46
      · have HC46 : Hid (L.getD k 0 = 46) := by rw [← HC.out]; exact eq46.2 h46
        have h46' : ((c.toNat : Int) == 46) = true := by simpa using h46
        obtain ⟨j1, hj1⟩ : ∃ j1, k + 1 + skipD (L.drop (k + 1)) = j1 := ⟨_, rfl⟩
        have HJ1 : Hid (k + 1 + skipD (L.drop (k + 1)) = j1) := hj1
        have hj1n : j1 ≤ n := by have := skipD_bound L (k + 1) (by omega); rw [HL.out] at this; omega
        by_cases h0 : skipD (L.drop (k + 1)) = 0
        · have HE : Hid (Ends L i (k + 1) false) := mid1_dot_no H1.out hkL HC46.out h0
          have hj1e : j1 = k + 1 := by omega
          subst hj1e
          clear hj1 h46 h0
          go_wp2_with (go_at_call 13; refine (skip_any (some ⟨b, off, none⟩) n cap (k + 1) L _ HB hn (by omega) (k + 1) HJ1).mono ?_; rintro e w' ⟨rfl, rfl⟩)
          go_ret2
          exact ⟨ret_two (HJ.out.one HE.out), rfl⟩
        · have HM : Hid (Mid2 L i j1) := by rw [← hj1]; exact mid1_dot H1.out hkL HC46.out (by omega)
          have hj1e : ((j1 : Int) == (k : Int) + 1) = false := by simp; omega
          clear hj1 h46 h0
          go_wp2_with (go_at_call 13; refine (skip_any (some ⟨b, off, none⟩) n cap (k + 1) L _ HB hn (by omega) j1 HJ1).mono ?_; rintro e w' ⟨rfl, rfl⟩)
          go_meet
          case rel => exact ⟨rfl, j1, hj1n, rfl, HM⟩
      · have h46' : ((c.toNat : Int) == 46) = false := by simpa using h46
        have HM : Hid (Mid2 L i k) := mid1_none H1.out (fun _ => by rw [← HC.out]; exact fun e => h46 (eq46.1 e))
        clear h46
        go_wp2
        go_meet
        case rel => exact ⟨rfl, k, hk, rfl, HM⟩
    · have HM : Hid (Mid2 L i k) := mid1_none H1.out (fun h => by rw [HL.out] at h; omega)
      go_wp2
      go_meet
      case rel => exact ⟨rfl, k, hk, rfl, HM⟩
  case rest =>
  clear H1 hk k
  obtain ⟨rfl, k, hk, rfl, H2⟩ := hcut
  refine hK3 _ _ ?_
  clear hK3 K3
  by_cases hex : k < n ∧ ex (L.getD k 0) = true
  · obtain ⟨hkn, hex⟩ := hex
    obtain ⟨b', off', e', hck⟩ := HB.out.at hkn
    cases e'
    have hkL : k < L.length := by rw [HL.out]; exact hkn
    obtain ⟨c, hc⟩ : ∃ c, c = L.getD k 0 := ⟨_, rfl⟩
    rw [← hc] at hck
    have HX : Hid (ex (L.getD k 0) = true) := hex
    have hcx0 := hex
    rw [← hc, ex_int] at hcx0
    have hcx := of_decide_eq_true hcx0
    clear hcx0
    have hki : (k : Int) < (n : Int) := by omega
    clear hc hex
    go_upto_region 15 with fail
    go_cut [83] (fun s83 wx => w = wx ∧ s83 = .bool true)
    case first =>
      rcases hcx with hcx | hcx
      · have h1 : ((c.toNat : Int) == 101) = true := by simpa using hcx
        clear hcx
        go_wp2
        go_meet
        case rel => exact ⟨rfl, rfl⟩
      · have h1 : ((c.toNat : Int) == 101) = false := by simp; omega
        have h2 : ((c.toNat : Int) == 69) = true := by simpa using hcx
        clear hcx
        go_wp2
        go_meet
        case rel => exact ⟨rfl, rfl⟩
    case rest =>
    obtain ⟨rfl, rfl⟩ := hcut
    clear hcx hck c hki
    go_upto_region 17 with fail
    go_cut [103] (fun s103 wx => w = wx ∧ ∃ sb : Bool, s103 = .bool sb ∧ Hid (sb = true → k + 1 < n ∧ sg (L.getD (k + 1) 0) = true) ∧ Hid (sb = false → k + 1 < n → sg (L.getD (k + 1) 0) = false))
    case first =>
      by_cases hk1 : k + 1 < n
      · obtain ⟨b', off', e', hck⟩ := HB.out.at hk1
        cases e'
        obtain ⟨c, hc⟩ : ∃ c, c = L.getD (k + 1) 0 := ⟨_, rfl⟩
        rw [← hc] at hck
        have HS : Hid (sg (L.getD (k + 1) 0) = decide ((c.toNat : Int) = 43 ∨ (c.toNat : Int) = 45)) := by rw [← hc]; exact sg_int c
        have hki : (k : Int) + 1 < (n : Int) := by omega
        clear hc
        by_cases h43 : (c.toNat : Int) = 43
        · have HG : Hid (sg (L.getD (k + 1) 0) = true) := by show _ = _; rw [HS.out]; exact decide_eq_true (by omega)
          have h1 : ((c.toNat : Int) == 43) = true := by simpa using h43
          clear h43
          go_wp2
          go_meet
          case rel => exact ⟨rfl, true, rfl, fun _ => ⟨hk1, HG.out⟩, fun h => by cases h⟩
        · have h1 : ((c.toNat : Int) == 43) = false := by simpa using h43
          by_cases h45 : (c.toNat : Int) = 45
          · have HG : Hid (sg (L.getD (k + 1) 0) = true) := by show _ = _; rw [HS.out]; exact decide_eq_true (by omega)
            have h2 : ((c.toNat : Int) == 45) = true := by simpa using h45
            clear h43 h45
            go_wp2
            go_meet
            case rel => exact ⟨rfl, true, rfl, fun _ => ⟨hk1, HG.out⟩, fun h => by cases h⟩
          · have HG : Hid (sg (L.getD (k + 1) 0) = false) := by show _ = _; rw [HS.out]; exact decide_eq_false (by omega)
            have h2 : ((c.toNat : Int) == 45) = false := by simpa using h45
            clear h43 h45
            go_wp2
            go_meet
            case rel => exact ⟨rfl, false, rfl, (fun h => by cases h), fun _ _ => HG.out⟩
      · have hki : ¬ (k : Int) + 1 < (n : Int) := by omega
        go_wp2
        go_meet
        case rel => exact ⟨rfl, false, rfl, (fun h => by cases h), fun _ h => absurd h hk1⟩
    case rest =>
    obtain ⟨rfl, sb, rfl, HS1, HS2⟩ := hcut
    go_upto_if 103 with fail
    go_cut [1] (fun s1 wx => w = wx ∧ ∃ k : Nat, k ≤ n ∧ s1 = .int .i64 k ∧ Hid (Mid3 L i k))
    case first =>
      cases sb
      · have HM : Hid (Mid3 L i (k + 1)) := mid2_bare H2.out hkL HX.out (fun h => HS2.out rfl (by rw [HL.out] at h; exact h))
        clear HS1 HS2
        go_wp2
        go_meet
        case rel => exact ⟨rfl, k + 1, by omega, by go_num, HM⟩
      · have HM : Hid (Mid3 L i (k + 1 + 1)) := mid2_sign H2.out hkL HX.out (by rw [HL.out]; exact (HS1.out rfl).1) (HS1.out rfl).2
        have hk2 := (HS1.out rfl).1
        clear HS1 HS2
        go_wp2
        go_meet
        case rel => exact ⟨rfl, k + 1 + 1, by omega, by go_num, HM⟩
    case rest =>
    clear H2 hk hkn hkL HX HS1 HS2 sb k
    obtain ⟨rfl, k, hk, rfl, H3⟩ := hcut
    obtain ⟨j1, hj1⟩ : ∃ j1, k + skipD (L.drop k) = j1 := ⟨_, rfl⟩
    have HJ1 : Hid (k + skipD (L.drop k) = j1) := hj1
    have hj1n : j1 ≤ n := by have := skipD_bound L k (by rw [HL.out]; exact hk); rw [HL.out] at this; omega
    by_cases h0 : skipD (L.drop k) = 0
    · have HE : Hid (Ends L i k false) := mid3_no H3.out h0
      have hj1e : j1 = k := by omega
      subst hj1e
      clear hj1 h0
      go_wp2_with (go_at_call 13; refine (skip_any (some ⟨b, off, none⟩) n cap j1 L _ HB hn hk j1 HJ1).mono ?_; rintro e w' ⟨rfl, rfl⟩)
      go_ret2
      exact ⟨ret_two (HJ.out.one HE.out), rfl⟩
    · have HE : Hid (Ends L i j1 true) := by rw [← hj1]; exact mid3_yes H3.out (by omega)
      have hj1e : ((j1 : Int) == (k : Int)) = false := by simp; omega
      clear hj1 h0
      go_wp2_with (go_at_call 13; refine (skip_any (some ⟨b, off, none⟩) n cap k L _ HB hn hk j1 HJ1).mono ?_; rintro e w' ⟨rfl, rfl⟩)
      go_ret2
      exact ⟨ret_two (HJ.out.one HE.out), rfl⟩
  · have HE : Hid (Ends L i k true) := mid2_end H2.out (fun h => by
      rw [HL.out] at h
      cases hx : ex (L.getD k 0) with
      | false => rfl
      | true => exact absurd ⟨h, hx⟩ hex)
    by_cases hkn : k < n
    · obtain ⟨b', off', e', hck⟩ := HB.out.at hkn
      cases e'
      obtain ⟨c, hc⟩ : ∃ c, c = L.getD k 0 := ⟨_, rfl⟩
      rw [← hc] at hck
      have hcx : ex c = false := by
        rw [hc]
        cases hx : ex (L.getD k 0) with
        | false => rfl
        | true => exact absurd ⟨hkn, hx⟩ hex
      rw [ex_int] at hcx
      have hcx := of_decide_eq_false hcx
      have h1 : ((c.toNat : Int) == 101) = false := by simp; omega
      have h2 : ((c.toNat : Int) == 69) = false := by simp; omega
      have hki : (k : Int) < (n : Int) := by omega
      clear hc hex hcx
      go_wp2
      go_ret2
      exact ⟨ret_two (HJ.out.one HE.out), rfl⟩
    · clear hex
      go_wp2
      go_ret2
      exact ⟨ret_two (HJ.out.one HE.out), rfl⟩

set_option maxHeartbeats 400000 in
theorem zzScan_any (a : Option Addr) (n cap i : Nat) (L : List UInt8) (w : World) (HB : Hid (Bs w a n L)) (hn : n ≤ 2097152) (hi : i < n) (j : Nat) (ok : Bool) (HJ : Hid (Ends L i j ok)) :
    Calls Try.prog 7 #[.slice a n cap, .int .i64 i] w fun e w' => e = .returned (.tuple #[.int .i64 (j : Int), .bool ok]) ∧ w = w' := by
  go_enter Try.func7, Try.ntmps7
  go_wp2_with (go_at_call 12; refine (scan_any a n cap i L _ HB hn hi j ok HJ).mono ?_; rintro e w' ⟨rfl, rfl⟩)
  go_ret2
  exact ⟨rfl, rfl⟩

end Go.Proofs.Qxb6606435a
