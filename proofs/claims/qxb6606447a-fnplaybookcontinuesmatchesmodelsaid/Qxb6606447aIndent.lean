/-
  Seat b6606447a: the contract of indent.
-/
import Derived.Test.Qxb6606447aCursor
namespace Go.Proofs.Qxb6606447a
open Go.ChangeShapes Go.WideShapes Go.ChangeAt Go.RowKit
open Plain

theorem ind_far (L : List UInt8) (k : Nat) (col limit x : Int) (h : ¬ x - col < limit) : ind col limit x (L.drop k) = x - col := by
  by_cases hk : k < L.length
  · rw [drop_cons L k hk]; simp [ind, h]
  · rw [drop_nil L k hk]; rfl
theorem ind_no (L : List UInt8) (k : Nat) (col limit x : Int) (hb : k < L.length → blk (L.getD k 0) = false) : ind col limit x (L.drop k) = x - col := by
  by_cases hk : k < L.length
  · have hb := hb hk
    rw [drop_cons L k hk]; generalize L.getD k 0 = c at hb; simp [ind, hb]
  · rw [drop_nil L k hk]; rfl
theorem ind_yes (L : List UInt8) (k : Nat) (col limit x : Int) (hk : k < L.length) (h : x - col < limit) (hb : blk (L.getD k 0) = true) : ind col limit x (L.drop k) = ind col limit (stB x (L.getD k 0)) (L.drop (k + 1)) := by
  rw [drop_cons L k hk]; generalize L.getD k 0 = c at hb; simp [ind, hb, h]

theorem stB_32 {x : Int} {b : UInt8} (h : (b.toNat : Int) = 32) : stB x b = x + 1 := by
  unfold stB; rw [if_neg (fun e => by have := eq9.1 e; omega)]
theorem stB_9 {x : Int} {b : UInt8} (h : (b.toNat : Int) = 9) : stB x b = x + (4 - x % 4) := by
  unfold stB; rw [if_pos (eq9.2 h)]; omega
theorem blk_32 {b : UInt8} (h : (b.toNat : Int) = 32) : blk b = true := by rw [blk_int]; exact decide_eq_true (.inl h)
theorem blk_9 {b : UInt8} (h : (b.toNat : Int) = 9) : blk b = true := by rw [blk_int]; exact decide_eq_true (.inr h)
theorem blk_else {b : UInt8} (h : ¬ (b.toNat : Int) = 32) (h' : ¬ (b.toNat : Int) = 9) : blk b = false := by rw [blk_int]; exact decide_eq_false (by omega)

set_option maxHeartbeats 1600000 in
theorem indent_any (cb : Nat) (s : ByteArray) (p : Nat) (at0 col fin run limit : Int) (w : World) (HC : Hid (Cur w cb s (p : Int) at0 col fin run)) (hs : s.size ≤ 1048576) (hp : p ≤ s.size) (h0 : 0 ≤ at0) (h1 : at0 ≤ 1073741824) (hc0 : at0 ≤ col) (hc1 : col ≤ at0 + 4) (N : Int) (HN : Hid (ind col limit at0 (s.data.toList.drop p) = N)) :
    Calls Try.prog 19 #[.pointer (some ⟨cb, 0, none⟩), .int .i64 limit] w fun e w' => e = .returned (.int .i64 N) ∧ w' = w := by
  obtain ⟨c0, c1, c2, c3, c4, c5⟩ := HC.out.cells
  go_enter Try.func19, Try.ntmps19
  go_wp2
  go_loop [5, 6] (fun b i => ∃ (k : Nat) (x : Int), p ≤ k ∧ k ≤ s.size ∧ i = .int .i64 (k : Int) ∧ b = .int .i64 x ∧ 0 ≤ x ∧ x ≤ at0 + 4 * ((k : Int) - p) ∧ Hid (ind col limit x (s.data.toList.drop k) = N)) (fun _ i => s.size - (intOf i).toNat)
  case atStart => exact ⟨p, at0, Nat.le_refl _, hp, rfl, rfl, h0, by omega, HN⟩
  case round =>
    obtain ⟨k, x, hpk, hk, rfl, rfl, hx0, hx1, HR⟩ := hrel
    by_cases hlt : k < s.size
    · have hkL : k < s.data.toList.length := by simpa using hlt
      have HG : Hid (s.data.toList.getD k 0 = s[k]) := getD_data s k hlt
      have hki : (k : Int) < (s.size : Int) := by omega
      by_cases hl : x - col < limit
      · by_cases h32 : (s[k].toNat : Int) = 32
        · have HE2 : Hid (ind col limit (x + 1) (s.data.toList.drop (k + 1)) = N) := by
            have := HR.out
            rw [ind_yes _ k col limit x hkL hl (by rw [HG.out]; exact blk_32 h32), HG.out, stB_32 h32] at this
            exact this
          have b32 : ((s[k].toNat : Int) == 32) = true := by simpa using h32
          clear h32
          go_wp2
          go_round
          case rel => exact ⟨k + 1, x + 1, by omega, by omega, by go_num, rfl, by omega, by omega, HE2⟩
          case measure => simp [intOf]; omega
        · have b32 : ((s[k].toNat : Int) == 32) = false := by simpa using h32
          by_cases h9 : (s[k].toNat : Int) = 9
          · have HE2 : Hid (ind col limit (x + (4 - x % 4)) (s.data.toList.drop (k + 1)) = N) := by
              have := HR.out
              rw [ind_yes _ k col limit x hkL hl (by rw [HG.out]; exact blk_9 h9), HG.out, stB_9 h9] at this
              exact this
            have b9 : ((s[k].toNat : Int) == 9) = true := by simpa using h9
            clear h32 h9
            go_wp2
            go_round
            case rel => exact ⟨k + 1, x + (4 - x % 4), by omega, by omega, by go_num, rfl, by omega, by omega, HE2⟩
            case measure => simp [intOf]; omega
          · have HE2 : Hid (x - col = N) := by
              have := HR.out
              rw [ind_no _ k col limit x (fun _ => by rw [HG.out]; exact blk_else h32 h9)] at this
              exact this
            have b9 : ((s[k].toNat : Int) == 9) = false := by simpa using h9
            clear h32 h9
            go_wp2
            go_ret
            exact ⟨ret_int HE2.out, rfl⟩
      · have HE2 : Hid (x - col = N) := by
          have := HR.out
          rw [ind_far _ k col limit x hl] at this
          exact this
        go_wp2
        go_ret
        exact ⟨ret_int HE2.out, rfl⟩
    · have HE2 : Hid (x - col = N) := by
        have := HR.out
        rw [ind_no _ k col limit x (fun h => absurd (by simpa using h) hlt)] at this
        exact this
      go_wp2
      go_ret
      exact ⟨ret_int HE2.out, rfl⟩

end Go.Proofs.Qxb6606447a
