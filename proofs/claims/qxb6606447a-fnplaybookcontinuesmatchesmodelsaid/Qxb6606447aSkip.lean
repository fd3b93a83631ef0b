/-
  Seat b6606447a: the contract of skip.
-/
import Derived.Test.Qxb6606447aIndent
namespace Go.Proofs.Qxb6606447a
open Go.ChangeShapes Go.WideShapes Go.ChangeAt Go.RowKit
open Plain

/-- Where the loop of skip stands. -/
def SkAt (L : List UInt8) (x c n : Int) (k P : Nat) (A C : Int) : Prop := k + (sk x c n (L.drop k)).1 = P ∧ (sk x c n (L.drop k)).2 = (A, C)

theorem SkAt.stop {L : List UInt8} {x c n c' : Int} {k P : Nat} {A C : Int} (h : SkAt L x c n k P A C) (hm : sk x c n (L.drop k) = (0, x, c')) : k = P ∧ x = A ∧ c' = C := by
  obtain ⟨h1, h2⟩ := h
  rw [hm] at h1 h2
  simp only [Prod.mk.injEq] at h2
  exact ⟨h1, h2.1, h2.2⟩
theorem sk_none (L : List UInt8) (k : Nat) (x c n : Int) (h : ¬ 0 < n) : sk x c n (L.drop k) = (0, x, c) := by
  by_cases hk : k < L.length
  · rw [drop_cons L k hk]; simp [sk, h]
  · rw [drop_nil L k hk]; rfl
theorem sk_no (L : List UInt8) (k : Nat) (x c n : Int) (hb : k < L.length → blk (L.getD k 0) = false) : sk x c n (L.drop k) = (0, x, c) := by
  by_cases hk : k < L.length
  · have hb := hb hk
    rw [drop_cons L k hk]; generalize L.getD k 0 = b at hb; simp [sk, hb]
  · rw [drop_nil L k hk]; rfl
theorem sk_part (L : List UInt8) (k : Nat) (x c n : Int) (hk : k < L.length) (hn : 0 < n) (hb : blk (L.getD k 0) = true) (hl : c + n < stB x (L.getD k 0)) : sk x c n (L.drop k) = (0, x, c + n) := by
  rw [drop_cons L k hk]; generalize L.getD k 0 = b at hb hl; simp [sk, hb, hn, hl]
theorem SkAt.next {L : List UInt8} {x c n : Int} {k P : Nat} {A C : Int} (h : SkAt L x c n k P A C) (hk : k < L.length) (hn : 0 < n) (hb : blk (L.getD k 0) = true) (hl : ¬ c + n < stB x (L.getD k 0)) :
    SkAt L (stB x (L.getD k 0)) (stB x (L.getD k 0)) (n - (stB x (L.getD k 0) - c)) (k + 1) P A C := by
  obtain ⟨h1, h2⟩ := h
  rw [drop_cons L k hk] at h1 h2
  generalize L.getD k 0 = b at *
  rw [sk, if_pos hn, if_pos hb, if_neg hl] at h1 h2
  exact ⟨by simp only at h1; omega, h2⟩

theorem Cur.fit {w : World} {cb : Nat} {s : ByteArray} {k P : Nat} {x A c C fin run : Int} (h : Cur w cb s (k : Int) x c fin run) (e : k = P ∧ x = A ∧ c = C) : Cur w cb s (P : Int) A C fin run := by
  rw [e.1, e.2.1, e.2.2] at h; exact h

/-- The cursor's place, for the measure. -/
def posOf (w : World) (cb : Nat) : Nat := match w.cell? ⟨cb, 1, none⟩ with
  | some (.int _ q) => q.toNat
  | _ => 0
theorem Cur.pos {w : World} {cb : Nat} {s : ByteArray} {k : Nat} {at0 col fin run : Int} (h : Cur w cb s (k : Int) at0 col fin run) : posOf w cb = k := by
  unfold posOf
  rw [h.cells.2.1]
  simp

set_option maxRecDepth 100000 in
set_option maxHeartbeats 3200000 in
theorem skip_any (cb : Nat) (s : ByteArray) (p : Nat) (at0 col fin run cols : Int) (w : World) (HC : Hid (Cur w cb s (p : Int) at0 col fin run)) (hs : s.size ≤ 1048576) (hp : p ≤ s.size) (h0 : 0 ≤ at0) (h1 : at0 ≤ 1073741824) (hc0 : at0 ≤ col) (hc1 : col ≤ at0 + 4) (hl : -9223372036854775808 ≤ cols) (hu : cols ≤ 1099511627776)
    (P : Nat) (A C : Int) (HS : Hid (SkAt s.data.toList at0 col cols p P A C)) :
    Calls Try.prog 20 #[.pointer (some ⟨cb, 0, none⟩), .int .i64 cols] w fun e w' => e = .returned (.tuple #[]) ∧ Hid (Cur w' cb s (P : Int) A C fin run) ∧ Hid (Only cb w w') := by
  go_enter Try.func20, Try.ntmps20
  go_wp2
  go_loopw [1] (fun v wr => ∃ (k : Nat) (x c n : Int), p ≤ k ∧ k ≤ s.size ∧ v = .int .i64 n ∧ 0 ≤ x ∧ x ≤ at0 + 4 * ((k : Int) - p) ∧ x ≤ c ∧ c ≤ x + 4 ∧ -9223372036854775808 ≤ n ∧ n ≤ 1099511627776 + 4 * ((k : Int) - p) ∧ Hid (Cur wr cb s (k : Int) x c fin run) ∧ Hid (Only cb w wr) ∧ Hid (SkAt s.data.toList x c n k P A C))
    (fun _ wr => s.size - posOf wr cb)
  case atStart => exact ⟨p, at0, col, cols, Nat.le_refl _, hp, rfl, h0, by omega, hc0, hc1, hl, by omega, HC, Only.refl _ _, HS⟩
  case round =>
    obtain ⟨k, x, c, n, hpk, hk, rfl, hx0, hx1, hxc, hcx, hn0, hn1, HCwr, HOwr, HSr⟩ := hrel
    obtain ⟨c0, c1, c2, c3, c4, c5⟩ := HCwr.out.cells
    have f1 := HCwr.out.free 1
    have f2 := HCwr.out.free 2
    have f3 := HCwr.out.free 3
    by_cases hn : 0 < n
    · by_cases hlt : k < s.size
      · have hkL : k < s.data.toList.length := by simpa using hlt
        have HG : Hid (s.data.toList.getD k 0 = s[k]) := getD_data s k hlt
        have hki : (k : Int) < (s.size : Int) := by omega
        have hki0 : (0 : Int) ≤ (k : Int) := by omega
        by_cases h32 : (s[k].toNat : Int) = 32
        · have b32 : ((s[k].toNat : Int) == 32) = true := by simpa using h32
          have HN : Hid (SkAt s.data.toList (x + 1) (x + 1) (n - (x + 1 - c)) (k + 1) P A C) := by
            have := HSr.out.next hkL hn (by rw [HG.out]; exact blk_32 h32) (by rw [HG.out, stB_32 h32]; omega)
            rw [HG.out, stB_32 h32] at this
            exact this
          clear h32
          go_wp2
          go_quiet (fail)
          obtain ⟨w2, hw2⟩ : ∃ w2, w2 = wr.drewN nq := ⟨_, rfl⟩
          have HCw2 : Hid (Cur w2 cb s (k : Int) x c fin run) := by rw [hw2]; exact HCwr
          have HOw2 : Hid (Only cb w w2) := by rw [hw2]; exact HOwr.out.drewN nq
          rw [← hw2]
          clear hw2 nq c0 c1 c2 c3 c4 c5 f1 f2 f3
          obtain ⟨c0, c1, c2, c3, c4, c5⟩ := HCw2.out.cells
          have f1 := HCw2.out.free 1
          have f2 := HCw2.out.free 2
          have f3 := HCw2.out.free 3
          go_wp2
          go_quiet (fail)
          obtain ⟨w3, hw3⟩ : ∃ w3, w3 = w2.drewN nq := ⟨_, rfl⟩
          have HCw3 : Hid (Cur w3 cb s (k : Int) x c fin run) := by rw [hw3]; exact HCw2
          have HOw3 : Hid (Only cb w w3) := by rw [hw3]; exact HOw2.out.drewN nq
          rw [← hw3]
          clear hw3 nq c0 c1 c2 c3 c4 c5 f1 f2 f3
          obtain ⟨c0, c1, c2, c3, c4, c5⟩ := HCw3.out.cells
          have f1 := HCw3.out.free 1
          have f2 := HCw3.out.free 2
          have f3 := HCw3.out.free 3
          have HCn : Hid (Cur (((w3.setCell ⟨cb, 1, none⟩ (.int .i64 ((k : Int) + 1))).setCell ⟨cb, 2, none⟩ (.int .i64 (x + 1))).setCell ⟨cb, 3, none⟩ (.int .i64 (x + 1))) cb s ((k + 1 : Nat) : Int) (x + 1) (x + 1) fin run) := HCw3.out.set1.set2.set3
          have HP0 := HCwr.out.pos
          have HPn := HCn.out.pos
          have HP : Hid (posOf wr cb = k ∧ posOf (((w3.setCell ⟨cb, 1, none⟩ (.int .i64 ((k : Int) + 1))).setCell ⟨cb, 2, none⟩ (.int .i64 (x + 1))).setCell ⟨cb, 3, none⟩ (.int .i64 (x + 1))) cb = k + 1) := ⟨HP0, HPn⟩
          clear HP0 HPn
          go_wp2
          go_roundw
          case rel => exact ⟨k + 1, x + 1, x + 1, n - (x + 1 - c), by omega, by omega, rfl, by omega, by omega, by omega, by omega, by omega, by omega, HCn, ((HOw3.out.set 1 _).set 2 _).set 3 _, HN⟩
          case measure => rw [HP.out.1, HP.out.2]; omega
        · have b32 : ((s[k].toNat : Int) == 32) = false := by simpa using h32
          by_cases h9 : (s[k].toNat : Int) = 9
          · have b9 : ((s[k].toNat : Int) == 9) = true := by simpa using h9
            have HS9 : Hid (stB x s[k] = x + 4 - x % 4) := by show _ = _; rw [stB_9 h9]; omega
            have HB9 : Hid (blk s[k] = true) := blk_9 h9
            by_cases hcn : c + n < x + 4 - x % 4
            · have HE : Hid (k = P ∧ x = A ∧ c + n = C) := HSr.out.stop (sk_part _ k x c n hkL hn (by rw [HG.out]; exact HB9.out) (by rw [HG.out, HS9.out]; exact hcn))
              clear h32 h9
              go_wp2
              go_quiet (fail)
              obtain ⟨w2, hw2⟩ : ∃ w2, w2 = wr.drewN nq := ⟨_, rfl⟩
              have HCw2 : Hid (Cur w2 cb s (k : Int) x c fin run) := by rw [hw2]; exact HCwr
              have HOw2 : Hid (Only cb w w2) := by rw [hw2]; exact HOwr.out.drewN nq
              rw [← hw2]
              clear hw2 nq c0 c1 c2 c3 c4 c5 f1 f2 f3
              obtain ⟨c0, c1, c2, c3, c4, c5⟩ := HCw2.out.cells
              have f1 := HCw2.out.free 1
              have f2 := HCw2.out.free 2
              have f3 := HCw2.out.free 3
              go_wp2
              go_quiet (fail)
              obtain ⟨w3, hw3⟩ : ∃ w3, w3 = w2.drewN nq := ⟨_, rfl⟩
              have HCw3 : Hid (Cur w3 cb s (k : Int) x c fin run) := by rw [hw3]; exact HCw2
              have HOw3 : Hid (Only cb w w3) := by rw [hw3]; exact HOw2.out.drewN nq
              rw [← hw3]
              clear hw3 nq c0 c1 c2 c3 c4 c5 f1 f2 f3
              obtain ⟨c0, c1, c2, c3, c4, c5⟩ := HCw3.out.cells
              have f1 := HCw3.out.free 1
              have f2 := HCw3.out.free 2
              have f3 := HCw3.out.free 3
              go_wp2
              go_quiet (fail)
              obtain ⟨w4, hw4⟩ : ∃ w4, w4 = w3.drewN nq := ⟨_, rfl⟩
              have HCw4 : Hid (Cur w4 cb s (k : Int) x c fin run) := by rw [hw4]; exact HCw3
              have HOw4 : Hid (Only cb w w4) := by rw [hw4]; exact HOw3.out.drewN nq
              rw [← hw4]
              clear hw4 nq c0 c1 c2 c3 c4 c5 f1 f2 f3
              obtain ⟨c0, c1, c2, c3, c4, c5⟩ := HCw4.out.cells
              have f1 := HCw4.out.free 1
              have f2 := HCw4.out.free 2
              have f3 := HCw4.out.free 3
              go_wp2
              exact bodyPost_ret (v := .tuple #[]) (by simp [results, Try.results20, go_sem]) rfl ⟨rfl, HCw4.out.set3.fit HE.out, HOw4.out.set 3 _⟩
            · have HN : Hid (SkAt s.data.toList (x + 4 - x % 4) (x + 4 - x % 4) (n - (x + 4 - x % 4 - c)) (k + 1) P A C) := by
                have := HSr.out.next hkL hn (by rw [HG.out]; exact HB9.out) (by rw [HG.out, HS9.out]; exact hcn)
                rw [HG.out, HS9.out] at this
                exact this
              clear h32 h9
              go_wp2
              go_quiet (fail)
              obtain ⟨w2, hw2⟩ : ∃ w2, w2 = wr.drewN nq := ⟨_, rfl⟩
              have HCw2 : Hid (Cur w2 cb s (k : Int) x c fin run) := by rw [hw2]; exact HCwr
              have HOw2 : Hid (Only cb w w2) := by rw [hw2]; exact HOwr.out.drewN nq
              rw [← hw2]
              clear hw2 nq c0 c1 c2 c3 c4 c5 f1 f2 f3
              obtain ⟨c0, c1, c2, c3, c4, c5⟩ := HCw2.out.cells
              have f1 := HCw2.out.free 1
              have f2 := HCw2.out.free 2
              have f3 := HCw2.out.free 3
              go_wp2
              go_quiet (fail)
              obtain ⟨w3, hw3⟩ : ∃ w3, w3 = w2.drewN nq := ⟨_, rfl⟩
              have HCw3 : Hid (Cur w3 cb s (k : Int) x c fin run) := by rw [hw3]; exact HCw2
              have HOw3 : Hid (Only cb w w3) := by rw [hw3]; exact HOw2.out.drewN nq
              rw [← hw3]
              clear hw3 nq c0 c1 c2 c3 c4 c5 f1 f2 f3
              obtain ⟨c0, c1, c2, c3, c4, c5⟩ := HCw3.out.cells
              have f1 := HCw3.out.free 1
              have f2 := HCw3.out.free 2
              have f3 := HCw3.out.free 3
              go_wp2
              go_quiet (fail)
              obtain ⟨w4, hw4⟩ : ∃ w4, w4 = w3.drewN nq := ⟨_, rfl⟩
              have HCw4 : Hid (Cur w4 cb s (k : Int) x c fin run) := by rw [hw4]; exact HCw3
              have HOw4 : Hid (Only cb w w4) := by rw [hw4]; exact HOw3.out.drewN nq
              rw [← hw4]
              clear hw4 nq c0 c1 c2 c3 c4 c5 f1 f2 f3
              obtain ⟨c0, c1, c2, c3, c4, c5⟩ := HCw4.out.cells
              have f1 := HCw4.out.free 1
              have f2 := HCw4.out.free 2
              have f3 := HCw4.out.free 3
              have HCn : Hid (Cur (((w4.setCell ⟨cb, 1, none⟩ (.int .i64 ((k : Int) + 1))).setCell ⟨cb, 2, none⟩ (.int .i64 (x + 4 - x % 4))).setCell ⟨cb, 3, none⟩ (.int .i64 (x + 4 - x % 4))) cb s ((k + 1 : Nat) : Int) (x + 4 - x % 4) (x + 4 - x % 4) fin run) := HCw4.out.set1.set2.set3
              have HP0 := HCwr.out.pos
              have HPn := HCn.out.pos
              have HP : Hid (posOf wr cb = k ∧ posOf (((w4.setCell ⟨cb, 1, none⟩ (.int .i64 ((k : Int) + 1))).setCell ⟨cb, 2, none⟩ (.int .i64 (x + 4 - x % 4))).setCell ⟨cb, 3, none⟩ (.int .i64 (x + 4 - x % 4))) cb = k + 1) := ⟨HP0, HPn⟩
              clear HP0 HPn
              go_wp2
              go_roundw
              case rel => exact ⟨k + 1, x + 4 - x % 4, x + 4 - x % 4, n - (x + 4 - x % 4 - c), by omega, by omega, rfl, by omega, by omega, by omega, by omega, by omega, by omega, HCn, ((HOw4.out.set 1 _).set 2 _).set 3 _, HN⟩
              case measure => rw [HP.out.1, HP.out.2]; omega
          · have b9 : ((s[k].toNat : Int) == 9) = false := by simpa using h9
            have HE : Hid (k = P ∧ x = A ∧ c = C) := HSr.out.stop (sk_no _ k x c n (fun _ => by rw [HG.out]; exact blk_else h32 h9))
            clear h32 h9
            go_wp2
            go_quiet (fail)
            obtain ⟨w2, hw2⟩ : ∃ w2, w2 = wr.drewN nq := ⟨_, rfl⟩
            have HCw2 : Hid (Cur w2 cb s (k : Int) x c fin run) := by rw [hw2]; exact HCwr
            have HOw2 : Hid (Only cb w w2) := by rw [hw2]; exact HOwr.out.drewN nq
            rw [← hw2]
            clear hw2 nq c0 c1 c2 c3 c4 c5 f1 f2 f3
            obtain ⟨c0, c1, c2, c3, c4, c5⟩ := HCw2.out.cells
            have f1 := HCw2.out.free 1
            have f2 := HCw2.out.free 2
            have f3 := HCw2.out.free 3
            go_wp2
            go_quiet (fail)
            obtain ⟨w3, hw3⟩ : ∃ w3, w3 = w2.drewN nq := ⟨_, rfl⟩
            have HCw3 : Hid (Cur w3 cb s (k : Int) x c fin run) := by rw [hw3]; exact HCw2
            have HOw3 : Hid (Only cb w w3) := by rw [hw3]; exact HOw2.out.drewN nq
            rw [← hw3]
            clear hw3 nq c0 c1 c2 c3 c4 c5 f1 f2 f3
            obtain ⟨c0, c1, c2, c3, c4, c5⟩ := HCw3.out.cells
            have f1 := HCw3.out.free 1
            have f2 := HCw3.out.free 2
            have f3 := HCw3.out.free 3
            go_wp2
            exact bodyPost_ret (v := .tuple #[]) (by simp [results, Try.results20, go_sem]) rfl ⟨rfl, HCw3.out.fit HE.out, HOw3⟩
      · have HE : Hid (k = P ∧ x = A ∧ c = C) := HSr.out.stop (sk_no _ k x c n (fun h => absurd (by simpa using h) hlt))
        have hki : ¬ (k : Int) < (s.size : Int) := by omega
        go_wp2
        go_quiet (fail)
        obtain ⟨w2, hw2⟩ : ∃ w2, w2 = wr.drewN nq := ⟨_, rfl⟩
        have HCw2 : Hid (Cur w2 cb s (k : Int) x c fin run) := by rw [hw2]; exact HCwr
        have HOw2 : Hid (Only cb w w2) := by rw [hw2]; exact HOwr.out.drewN nq
        rw [← hw2]
        clear hw2 nq c0 c1 c2 c3 c4 c5 f1 f2 f3
        obtain ⟨c0, c1, c2, c3, c4, c5⟩ := HCw2.out.cells
        have f1 := HCw2.out.free 1
        have f2 := HCw2.out.free 2
        have f3 := HCw2.out.free 3
        go_wp2
        go_end0
        exact ⟨rfl, HCw2.out.fit HE.out, HOw2⟩
    · have HE : Hid (k = P ∧ x = A ∧ c = C) := HSr.out.stop (sk_none _ k x c n hn)
      have hd : decide (0 < n) = false := decide_eq_false hn
      go_wp2
      go_quiet (fail)
      obtain ⟨w2, hw2⟩ : ∃ w2, w2 = wr.drewN nq := ⟨_, rfl⟩
      have HCw2 : Hid (Cur w2 cb s (k : Int) x c fin run) := by rw [hw2]; exact HCwr
      have HOw2 : Hid (Only cb w w2) := by rw [hw2]; exact HOwr.out.drewN nq
      rw [← hw2]
      clear hw2 nq c0 c1 c2 c3 c4 c5 f1 f2 f3
      obtain ⟨c0, c1, c2, c3, c4, c5⟩ := HCw2.out.cells
      have f1 := HCw2.out.free 1
      have f2 := HCw2.out.free 2
      have f3 := HCw2.out.free 3
      go_wp2
      go_end0
      exact ⟨rfl, HCw2.out.fit HE.out, HOw2⟩

end Go.Proofs.Qxb6606447a
