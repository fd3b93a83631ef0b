/-
  Seat b6606435a: the contract of modelScanNumber.
-/
import Derived.Test.Qxb6606435aScanWalk
namespace Go.Proofs.Qxb6606435a
open Go.ChangeShapes Go.WideShapes Go.ChangeAt Go.RowKit
open Plain

/-- The next state, as the Go text has it: -1 for none. -/
def nxt (st : Nat) (c : UInt8) : Int := match stp st c with
  | none => -1
  | some s => (s : Int)

theorem stp_le {st s : Nat} {c : UInt8} (h : stp st c = some s) : s ≤ 8 := by
  unfold stp at h
  repeat' split at h
  all_goals (cases h; try omega)

set_option linter.unusedSimpArgs false in
set_option maxRecDepth 100000 in
set_option maxHeartbeats 3200000 in
theorem model_any (a : Option Addr) (n cap i : Nat) (L : List UInt8) (w : World) (HB : Hid (Bs w a n L)) (hn : n ≤ 2097152) (hi : i ≤ n) (j : Nat) (ok : Bool) (HJ : Hid (Ends L i j ok)) :
    Calls Try.prog 8 #[.slice a n cap, .int .i64 i] w fun e w' => e = .returned (.tuple #[.int .i64 (j : Int), .bool ok]) ∧ w = w' := by
  have HL : Hid (L.length = n) := HB.out.1
  go_enter Try.func8, Try.ntmps8
  go_wp2
  go_loop [1, 6] (fun s1 s6 => ∃ k st : Nat, k ≤ n ∧ s1 = .int .i64 k ∧ s6 = .int .i64 st ∧ st ≤ 8 ∧ Hid (At L i st k)) (fun s1 _ => n - (intOf s1).toNat)
  case atStart => exact ⟨i, 0, hi, rfl, rfl, by omega, At.start L i (by rw [HL.out]; exact hi)⟩
  case round =>
    obtain ⟨k, st, hk, rfl, rfl, hst, HA⟩ := hrel
    by_cases hlt : k < n
    · obtain ⟨b, off, rfl, hck⟩ := HB.out.at hlt
      obtain ⟨c, hc⟩ : ∃ c, c = L.getD k 0 := ⟨_, rfl⟩
      rw [← hc] at hck
      have HC : Hid (c = L.getD k 0) := hc
      have hki : (k : Int) < (n : Int) := by omega
      clear hc
      go_upto_region 4 with fail
      go_cut [8] (fun s8 wx => w = wx ∧ s8 = .int .i64 (-1))
      case first =>
        go_wp2
        go_meet
        case rel => exact ⟨rfl, rfl⟩
      case rest =>
      obtain ⟨rfl, rfl⟩ := hcut
      rename_i hrest
      refine hrest _ _ ?_
      clear hrest
      refine wp_seq_k ?_
      intro K2 hK2
      go_cut [8] (fun s8 wx => w = wx ∧ ∃ q : Int, s8 = .int .i64 q ∧ Hid (q = nxt st c))
      case first =>
        rcases (show st = 0 ∨ st = 1 ∨ st = 2 ∨ st = 3 ∨ st = 4 ∨ st = 5 ∨ st = 6 ∨ st = 7 ∨ st = 8 from by omega) with rfl | rfl | rfl | rfl | rfl | rfl | rfl | rfl | rfl
        · as_aux_lemma =>
            by_cases h45 : (c.toNat : Int) = 45
            · have b45 : ((c.toNat : Int) == 45) = true := by simpa using h45
              have F45 : Hid (c = 45) := eq45.2 h45
              clear h45
              go_wp2
              go_meet
              case rel => exact ⟨rfl, _, rfl, by show _ = _; rw [F45.out]; decide⟩
            · have b45 : ((c.toNat : Int) == 45) = false := by simpa using h45
              have F45 : Hid (¬ c = 45) := fun e => h45 (eq45.1 e)
              clear h45
              by_cases h48 : (c.toNat : Int) = 48
              · have b48 : ((c.toNat : Int) == 48) = true := by simpa using h48
                have F48 : Hid (c = 48) := eq48.2 h48
                clear h48
                go_wp2
                go_meet
                case rel => exact ⟨rfl, _, rfl, by show _ = _; rw [F48.out]; decide⟩
              · have b48 : ((c.toNat : Int) == 48) = false := by simpa using h48
                have F48 : Hid (¬ c = 48) := fun e => h48 (eq48.1 e)
                clear h48
                cases hd : dig c
                · have FD : Hid (dig c = false) := hd
                  go_wp2_with (go_at_call 10; refine (isDigit_any c _).mono ?_; rintro e w' ⟨rfl, rfl⟩; rw [hd])
                  go_meet
                  case rel => exact ⟨rfl, _, rfl, by show _ = _; simp [nxt, stp, F45.out, F48.out, FD.out]⟩
                · have FD : Hid (dig c = true) := hd
                  go_wp2_with (go_at_call 10; refine (isDigit_any c _).mono ?_; rintro e w' ⟨rfl, rfl⟩; rw [hd])
                  go_meet
                  case rel => exact ⟨rfl, _, rfl, by show _ = _; simp [nxt, stp, F45.out, F48.out, FD.out]⟩
        · as_aux_lemma =>
            by_cases h48 : (c.toNat : Int) = 48
            · have b48 : ((c.toNat : Int) == 48) = true := by simpa using h48
              have F48 : Hid (c = 48) := eq48.2 h48
              clear h48
              go_wp2
              go_meet
              case rel => exact ⟨rfl, _, rfl, by show _ = _; rw [F48.out]; decide⟩
            · have b48 : ((c.toNat : Int) == 48) = false := by simpa using h48
              have F48 : Hid (¬ c = 48) := fun e => h48 (eq48.1 e)
              clear h48
              cases hd : dig c
              · have FD : Hid (dig c = false) := hd
                go_wp2_with (go_at_call 10; refine (isDigit_any c _).mono ?_; rintro e w' ⟨rfl, rfl⟩; rw [hd])
                go_meet
                case rel => exact ⟨rfl, _, rfl, by show _ = _; simp [nxt, stp, F48.out, FD.out]⟩
              · have FD : Hid (dig c = true) := hd
                go_wp2_with (go_at_call 10; refine (isDigit_any c _).mono ?_; rintro e w' ⟨rfl, rfl⟩; rw [hd])
                go_meet
                case rel => exact ⟨rfl, _, rfl, by show _ = _; simp [nxt, stp, F48.out, FD.out]⟩
        · as_aux_lemma =>
            by_cases h46 : (c.toNat : Int) = 46
            · have b46 : ((c.toNat : Int) == 46) = true := by simpa using h46
              have F46 : Hid (c = 46) := eq46.2 h46
              clear h46
              go_wp2
              go_meet
              case rel => exact ⟨rfl, _, rfl, by show _ = _; rw [F46.out]; decide⟩
            · have b46 : ((c.toNat : Int) == 46) = false := by simpa using h46
              have F46 : Hid (¬ c = 46) := fun e => h46 (eq46.1 e)
              clear h46
              by_cases h101 : (c.toNat : Int) = 101
              · have b101 : ((c.toNat : Int) == 101) = true := by simpa using h101
                have FX : Hid (ex c = true) := by show _ = _; rw [ex_int]; exact decide_eq_true (.inl h101)
                clear h101
                go_wp2
                go_meet
                case rel => exact ⟨rfl, _, rfl, by show _ = _; simp [nxt, stp, F46.out, FX.out]⟩
              · have b101 : ((c.toNat : Int) == 101) = false := by simpa using h101
                by_cases h69 : (c.toNat : Int) = 69
                · have b69 : ((c.toNat : Int) == 69) = true := by simpa using h69
                  have FX : Hid (ex c = true) := by show _ = _; rw [ex_int]; exact decide_eq_true (.inr h69)
                  clear h101 h69
                  go_wp2
                  go_meet
                  case rel => exact ⟨rfl, _, rfl, by show _ = _; simp [nxt, stp, F46.out, FX.out]⟩
                · have b69 : ((c.toNat : Int) == 69) = false := by simpa using h69
                  have FX : Hid (ex c = false) := by show _ = _; rw [ex_int]; exact decide_eq_false (by omega)
                  clear h101 h69
                  go_wp2
                  go_meet
                  case rel => exact ⟨rfl, _, rfl, by show _ = _; simp [nxt, stp, F46.out, FX.out]⟩
        · as_aux_lemma =>
            cases hd : dig c
            · have FD : Hid (dig c = false) := hd
              by_cases h46 : (c.toNat : Int) = 46
              · have b46 : ((c.toNat : Int) == 46) = true := by simpa using h46
                have F46 : Hid (c = 46) := eq46.2 h46
                clear h46
                go_wp2_with (go_at_call 10; refine (isDigit_any c _).mono ?_; rintro e w' ⟨rfl, rfl⟩; rw [hd])
                go_meet
                case rel => exact ⟨rfl, _, rfl, by show _ = _; rw [F46.out]; decide⟩
              · have b46 : ((c.toNat : Int) == 46) = false := by simpa using h46
                have F46 : Hid (¬ c = 46) := fun e => h46 (eq46.1 e)
                clear h46
                by_cases h101 : (c.toNat : Int) = 101
                · have b101 : ((c.toNat : Int) == 101) = true := by simpa using h101
                  have FX : Hid (ex c = true) := by show _ = _; rw [ex_int]; exact decide_eq_true (.inl h101)
                  clear h101
                  go_wp2_with (go_at_call 10; refine (isDigit_any c _).mono ?_; rintro e w' ⟨rfl, rfl⟩; rw [hd])
                  go_meet
                  case rel => exact ⟨rfl, _, rfl, by show _ = _; simp [nxt, stp, FD.out, F46.out, FX.out]⟩
                · have b101 : ((c.toNat : Int) == 101) = false := by simpa using h101
                  by_cases h69 : (c.toNat : Int) = 69
                  · have b69 : ((c.toNat : Int) == 69) = true := by simpa using h69
                    have FX : Hid (ex c = true) := by show _ = _; rw [ex_int]; exact decide_eq_true (.inr h69)
                    clear h101 h69
                    go_wp2_with (go_at_call 10; refine (isDigit_any c _).mono ?_; rintro e w' ⟨rfl, rfl⟩; rw [hd])
                    go_meet
                    case rel => exact ⟨rfl, _, rfl, by show _ = _; simp [nxt, stp, FD.out, F46.out, FX.out]⟩
                  · have b69 : ((c.toNat : Int) == 69) = false := by simpa using h69
                    have FX : Hid (ex c = false) := by show _ = _; rw [ex_int]; exact decide_eq_false (by omega)
                    clear h101 h69
                    go_wp2_with (go_at_call 10; refine (isDigit_any c _).mono ?_; rintro e w' ⟨rfl, rfl⟩; rw [hd])
                    go_meet
                    case rel => exact ⟨rfl, _, rfl, by show _ = _; simp [nxt, stp, FD.out, F46.out, FX.out]⟩
            · have FD : Hid (dig c = true) := hd
              go_wp2_with (go_at_call 10; refine (isDigit_any c _).mono ?_; rintro e w' ⟨rfl, rfl⟩; rw [hd])
              go_meet
              case rel => exact ⟨rfl, _, rfl, by show _ = _; simp [nxt, stp, FD.out]⟩
        · as_aux_lemma =>
            cases hd : dig c
            · have FD : Hid (dig c = false) := hd
              go_wp2_with (go_at_call 10; refine (isDigit_any c _).mono ?_; rintro e w' ⟨rfl, rfl⟩; rw [hd])
              go_meet
              case rel => exact ⟨rfl, _, rfl, by show _ = _; simp [nxt, stp, FD.out]⟩
            · have FD : Hid (dig c = true) := hd
              go_wp2_with (go_at_call 10; refine (isDigit_any c _).mono ?_; rintro e w' ⟨rfl, rfl⟩; rw [hd])
              go_meet
              case rel => exact ⟨rfl, _, rfl, by show _ = _; simp [nxt, stp, FD.out]⟩
        · as_aux_lemma =>
            cases hd : dig c
            · have FD : Hid (dig c = false) := hd
              by_cases h101 : (c.toNat : Int) = 101
              · have b101 : ((c.toNat : Int) == 101) = true := by simpa using h101
                have FX : Hid (ex c = true) := by show _ = _; rw [ex_int]; exact decide_eq_true (.inl h101)
                clear h101
                go_wp2_with (go_at_call 10; refine (isDigit_any c _).mono ?_; rintro e w' ⟨rfl, rfl⟩; rw [hd])
                go_meet
                case rel => exact ⟨rfl, _, rfl, by show _ = _; simp [nxt, stp, FD.out, FX.out]⟩
              · have b101 : ((c.toNat : Int) == 101) = false := by simpa using h101
                by_cases h69 : (c.toNat : Int) = 69
                · have b69 : ((c.toNat : Int) == 69) = true := by simpa using h69
                  have FX : Hid (ex c = true) := by show _ = _; rw [ex_int]; exact decide_eq_true (.inr h69)
                  clear h101 h69
                  go_wp2_with (go_at_call 10; refine (isDigit_any c _).mono ?_; rintro e w' ⟨rfl, rfl⟩; rw [hd])
                  go_meet
                  case rel => exact ⟨rfl, _, rfl, by show _ = _; simp [nxt, stp, FD.out, FX.out]⟩
                · have b69 : ((c.toNat : Int) == 69) = false := by simpa using h69
                  have FX : Hid (ex c = false) := by show _ = _; rw [ex_int]; exact decide_eq_false (by omega)
                  clear h101 h69
                  go_wp2_with (go_at_call 10; refine (isDigit_any c _).mono ?_; rintro e w' ⟨rfl, rfl⟩; rw [hd])
                  go_meet
                  case rel => exact ⟨rfl, _, rfl, by show _ = _; simp [nxt, stp, FD.out, FX.out]⟩
            · have FD : Hid (dig c = true) := hd
              go_wp2_with (go_at_call 10; refine (isDigit_any c _).mono ?_; rintro e w' ⟨rfl, rfl⟩; rw [hd])
              go_meet
              case rel => exact ⟨rfl, _, rfl, by show _ = _; simp [nxt, stp, FD.out]⟩
        · as_aux_lemma =>
            by_cases h43 : (c.toNat : Int) = 43
            · have b43 : ((c.toNat : Int) == 43) = true := by simpa using h43
              have FS : Hid (sg c = true) := by show _ = _; rw [sg_int]; exact decide_eq_true (.inl h43)
              clear h43
              go_wp2
              go_meet
              case rel => exact ⟨rfl, _, rfl, by show _ = _; simp [nxt, stp, FS.out]⟩
            · have b43 : ((c.toNat : Int) == 43) = false := by simpa using h43
              by_cases h45 : (c.toNat : Int) = 45
              · have b45 : ((c.toNat : Int) == 45) = true := by simpa using h45
                have FS : Hid (sg c = true) := by show _ = _; rw [sg_int]; exact decide_eq_true (.inr h45)
                clear h43 h45
                go_wp2
                go_meet
                case rel => exact ⟨rfl, _, rfl, by show _ = _; simp [nxt, stp, FS.out]⟩
              · have b45 : ((c.toNat : Int) == 45) = false := by simpa using h45
                have FS : Hid (sg c = false) := by show _ = _; rw [sg_int]; exact decide_eq_false (by omega)
                clear h43 h45
                cases hd : dig c
                · have FD : Hid (dig c = false) := hd
                  go_wp2_with (go_at_call 10; refine (isDigit_any c _).mono ?_; rintro e w' ⟨rfl, rfl⟩; rw [hd])
                  go_meet
                  case rel => exact ⟨rfl, _, rfl, by show _ = _; simp [nxt, stp, FS.out, FD.out]⟩
                · have FD : Hid (dig c = true) := hd
                  go_wp2_with (go_at_call 10; refine (isDigit_any c _).mono ?_; rintro e w' ⟨rfl, rfl⟩; rw [hd])
                  go_meet
                  case rel => exact ⟨rfl, _, rfl, by show _ = _; simp [nxt, stp, FS.out, FD.out]⟩
        · as_aux_lemma =>
            cases hd : dig c
            · have FD : Hid (dig c = false) := hd
              go_wp2_with (go_at_call 10; refine (isDigit_any c _).mono ?_; rintro e w' ⟨rfl, rfl⟩; rw [hd])
              go_meet
              case rel => exact ⟨rfl, _, rfl, by show _ = _; simp [nxt, stp, FD.out]⟩
            · have FD : Hid (dig c = true) := hd
              go_wp2_with (go_at_call 10; refine (isDigit_any c _).mono ?_; rintro e w' ⟨rfl, rfl⟩; rw [hd])
              go_meet
              case rel => exact ⟨rfl, _, rfl, by show _ = _; simp [nxt, stp, FD.out]⟩
        · as_aux_lemma =>
            cases hd : dig c
            · have FD : Hid (dig c = false) := hd
              go_wp2_with (go_at_call 10; refine (isDigit_any c _).mono ?_; rintro e w' ⟨rfl, rfl⟩; rw [hd])
              go_meet
              case rel => exact ⟨rfl, _, rfl, by show _ = _; simp [nxt, stp, FD.out]⟩
            · have FD : Hid (dig c = true) := hd
              go_wp2_with (go_at_call 10; refine (isDigit_any c _).mono ?_; rintro e w' ⟨rfl, rfl⟩; rw [hd])
              go_meet
              case rel => exact ⟨rfl, _, rfl, by show _ = _; simp [nxt, stp, FD.out]⟩
      case rest =>
      obtain ⟨rfl, q, rfl, HQ⟩ := hcut
      refine hK2 _ _ ?_
      clear hK2 K2
      cases hs : stp st c with
      | none =>
        have hq : q = -1 := by rw [HQ.out]; simp [nxt, hs]
        subst hq
        have HE : Hid (Ends L i k (acc st)) := at_ends HA.out (fun _ => by rw [← HC.out]; exact hs)
        clear HQ
        go_upto_region 48 with fail
        rcases (show st = 0 ∨ st = 1 ∨ st = 2 ∨ st = 3 ∨ st = 4 ∨ st = 5 ∨ st = 6 ∨ st = 7 ∨ st = 8 from by omega) with rfl | rfl | rfl | rfl | rfl | rfl | rfl | rfl | rfl
        all_goals
          go_wp2
          go_ret2
          exact ⟨ret_two (HJ.out.one HE.out), rfl⟩
      | some s' =>
        have hq : q = (s' : Int) := by rw [HQ.out]; simp [nxt, hs]
        subst hq
        have hs8 := stp_le hs
        have HN : Hid (At L i s' (k + 1)) := HA.out.next (by rw [HL.out]; exact hlt) (by rw [← HC.out]; exact hs)
        clear HQ hs
        go_wp2
        go_round
        case rel => exact ⟨k + 1, s', by omega, by go_num, rfl, hs8, HN⟩
        case measure => simp [intOf]; omega
    · have HE : Hid (Ends L i k (acc st)) := at_ends HA.out (fun h => by rw [HL.out] at h; omega)
      go_upto_region 48 with fail
      rcases (show st = 0 ∨ st = 1 ∨ st = 2 ∨ st = 3 ∨ st = 4 ∨ st = 5 ∨ st = 6 ∨ st = 7 ∨ st = 8 from by omega) with rfl | rfl | rfl | rfl | rfl | rfl | rfl | rfl | rfl
      all_goals
        go_wp2
        go_ret2
        exact ⟨ret_two (HJ.out.one HE.out), rfl⟩

end Go.Proofs.Qxb6606435a
