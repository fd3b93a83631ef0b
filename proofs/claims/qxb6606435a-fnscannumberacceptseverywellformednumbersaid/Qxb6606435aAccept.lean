/-
  Seat b6606435a: the walk of FnScanNumberAcceptsEveryWellFormedNumber.
-/
import Derived.Test.Qxb6606435aOwn
namespace Go.Proofs.Qxb6606435a
open Go.ChangeShapes Go.WideShapes Go.ChangeAt Go.RowKit
open Plain

set_option maxHeartbeats 400000 in
theorem bytes11_yes (p0 : Option Addr) (n0 c0 : Nat) (neg : Bool) (p2 : Option Addr) (n2 c2 : Nat) (p3 : Option Addr) (n3 c3 : Nat) (p4 : Option Addr) (n4 c4 : Nat) (up : Bool) (e t : Int) (w : World) (h : n0 + n2 + n3 + n4 ≤ 1048576) :
    Calls Try.prog 11 #[.slice p0 n0 c0, .bool neg, .slice p2 n2 c2, .slice p3 n3 c3, .slice p4 n4 c4, .bool up, .int .u8 e, .int .u8 t] w fun e w' => e = .returned (.bool true) ∧ w = w' := by
  go_enter Try.func11, Try.ntmps11
  go_wp2
  go_ret
  exact ⟨rfl, rfl⟩

set_option maxHeartbeats 800000 in
theorem bytes11_no (p0 : Option Addr) (n0 c0 : Nat) (neg : Bool) (p2 : Option Addr) (n2 c2 : Nat) (p3 : Option Addr) (n3 c3 : Nat) (p4 : Option Addr) (n4 c4 : Nat) (up : Bool) (e t : Int) (w : World) (h : 1048576 < n0 + n2 + n3 + n4)
    (h0 : n0 ≤ maxLen) (h2 : n2 ≤ maxLen) (h3 : n3 ≤ maxLen) (h4 : n4 ≤ maxLen) :
    Calls Try.prog 11 #[.slice p0 n0 c0, .bool neg, .slice p2 n2 c2, .slice p3 n3 c3, .slice p4 n4 c4, .bool up, .int .u8 e, .int .u8 t] w fun e w' => e = .returned (.bool false) ∧ w = w' := by
  unfold maxLen at h0 h2 h3 h4
  by_cases k0 : n0 ≤ 1048576
  · by_cases k2 : n2 ≤ 1048576
    · by_cases k02 : n0 + n2 ≤ 1048576
      · by_cases k3 : n3 ≤ 1048576
        · by_cases k023 : n0 + n2 + n3 ≤ 1048576
          · by_cases k4 : n4 ≤ 1048576
            all_goals
              go_enter Try.func11, Try.ntmps11
              go_wp2
              go_ret
              exact ⟨rfl, rfl⟩
          · go_enter Try.func11, Try.ntmps11
            go_wp2
            go_ret
            exact ⟨rfl, rfl⟩
        · go_enter Try.func11, Try.ntmps11
          go_wp2
          go_ret
          exact ⟨rfl, rfl⟩
      · go_enter Try.func11, Try.ntmps11
        go_wp2
        go_ret
        exact ⟨rfl, rfl⟩
    · go_enter Try.func11, Try.ntmps11
      go_wp2
      go_ret
      exact ⟨rfl, rfl⟩
  · go_enter Try.func11, Try.ntmps11
    go_wp2
    go_ret
    exact ⟨rfl, rfl⟩

set_option maxRecDepth 100000 in
set_option maxHeartbeats 400000 in
theorem accept_out (p0 : Option Addr) (n0 c0 : Nat) (neg : Bool) (p2 : Option Addr) (n2 c2 : Nat) (p3 : Option Addr) (n3 c3 : Nat) (p4 : Option Addr) (n4 c4 : Nat) (up : Bool) (e t : Int) (w : World) (h : 1048576 < n0 + n2 + n3 + n4)
    (h0 : n0 ≤ maxLen) (h2 : n2 ≤ maxLen) (h3 : n3 ≤ maxLen) (h4 : n4 ≤ maxLen) :
    Calls Try.prog 5 #[.slice p0 n0 c0, .bool neg, .slice p2 n2 c2, .slice p3 n3 c3, .slice p4 n4 c4, .bool up, .int .u8 e, .int .u8 t] w fun e w' => e = .returned (.bool true) ∧ Below w.heap.size w w' := by
  go_enter Try.func5, Try.ntmps5
  go_wp2_with (go_at_call 11; refine (bytes11_no p0 n0 c0 neg p2 n2 c2 p3 n3 c3 p4 n4 c4 up e t _ h h0 h2 h3 h4).mono ?_; rintro e w' ⟨rfl, rfl⟩)
  go_ret
  exact ⟨rfl, Below.refl _ _⟩

/-- The buffer so far. -/
def Buf (w wr : World) (g m c : Nat) (T : List UInt8) : Prop := Own wr w.heap.size g m c T ∧ Below w.heap.size w wr

theorem Buf.push {w wr w' : World} {g m c g' n' c' : Nat} {T T' : List UInt8} {o : Obj} (h : Buf w wr g m c T) (hg : Grew (wr.alloc o) w' w.heap.size g g' n' c' T') : Buf w w' g' n' c' T' :=
  ⟨hg.1, hg.below (h.2.alloc h.2.size o) (by have := h.2.size; simp; omega) h.1.base.1⟩

/-- 'buf = append(buf, c)'. -/
theorem wpList_put {w wr : World} {ops : Array Oper} {rest : List Oper} {o : Oper} {a : Act} {Q : Exit → Act → World → Prop} (hgd : o.guard = none) (s x : Operand)
    (ho : o.op = .call { callee := .builtin .append, args := #[s, x], argTypes := #[22, 22] })
    (g m c : Nat) (T : List UInt8) (hs : a.eval s = .slice (some ⟨g, 0, none⟩) m c) (HB : Hid (Buf w wr g m c T)) (z : Int) (d : UInt8) (hz : z = (d.toNat : Int))
    (hx : a.eval x = .slice (some ⟨wr.heap.size, 0, none⟩) 1 1) (hbd : m ≤ 2097152)
    (h : ∀ g' c' w', Hid (Buf w w' g' (m + 1) c' (T ++ [d])) → wpList Try.prog ops Q rest (a.put o.dst (.slice (some ⟨g', 0, none⟩) (m + 1) c')) w') : wpList Try.prog ops Q (o :: rest) a (wr.alloc (.cells #[.int .u8 z] 5)) := by
  refine wpList_push hgd s x ho w.heap.size g m c T hs (HB.out.1.alloc _) ⟨wr.heap.size, 0, none⟩ 1 1 [d] hx rfl (news_int wr z d hz) (by decide) (by omega) (by have := HB.out.2.size; simp; omega) ?_
  intro g' c' w' HG
  exact h g' c' w' (HB.out.push HG.out)

theorem take_snoc (R : List UInt8) (k : Nat) (h : k < R.length) : R.take (k + 1) = R.take k ++ [R.getD k 0] := by
  rw [List.take_succ_eq_append_getElem h, List.getD_eq_getElem?_getD, List.getElem?_eq_getElem h]; rfl
theorem intT_take (R : List UInt8) (k : Nat) (h1 : 1 ≤ k) (h : k < R.length) : intT (R.take (k + 1)) = intT (R.take k) ++ [dg (R.getD k 0)] := by
  rw [take_snoc R k h]
  cases R with
  | nil => simp at h
  | cons x r =>
    obtain ⟨j, rfl⟩ : ∃ j, k = j + 1 := ⟨k - 1, by omega⟩
    simp [intT]
theorem map_take (R : List UInt8) (k : Nat) (h : k < R.length) : (R.take (k + 1)).map dg = (R.take k).map dg ++ [dg (R.getD k 0)] := by
  rw [take_snoc R k h, List.map_append]; rfl

/-- A byte of an argument, read while the buffer is built. -/
theorem Buf.read {w wr : World} {g m c : Nat} {T : List UInt8} (h : Buf w wr g m c T) {b off n : Nat} {R : List UInt8} (hb : Bs w (some ⟨b, off, none⟩) n R) {k : Nat} (hk : k < n) : wr.cell? ⟨b, off + k, none⟩ = some (.int .u8 ((R.getD k 0).toNat : Int)) := by
  obtain ⟨b', off', e, hlt, hc⟩ := hb.2 (by omega)
  cases e
  rw [h.2.cell (by exact hlt)]
  exact hc k hk

theorem nil_iff {n : Nat} {b : Bool} {R : List UInt8} (h : decide (0 < n) = b) (hl : R.length = n) : b = false ↔ R = [] := by
  subst hl
  rw [← h, decide_eq_false_iff_not, Nat.not_lt, Nat.le_zero, List.length_eq_zero_iff]
theorem nil_iff0 {n : Nat} {b : Bool} {R : List UInt8} (h : ((n : Int) == 0) = b) (hl : R.length = n) : b = true ↔ R = [] := by
  subst hl
  rw [← h]
  simp
theorem textT_pos (neg up : Bool) (e : Int) (R2 R3 R4 : List UInt8) : 0 < (sgnT neg ++ intT R2 ++ fracT R3 ++ expT up e R4).length := by
  have : 0 < (intT R2).length := by cases R2 <;> simp [intT]
  simp only [List.length_append]
  omega

theorem stops_of {R2 R3 R4 : List UInt8} {t : UInt8} {hf hx z2 bz : Bool} (HF : hf = false ↔ R3 = []) (HX : hx = false ↔ R4 = []) (HZ : z2 = true ↔ R2 = []) (hbz : bz = (z2 && !hf && !hx))
    (h1 : false = (dig t && !bz)) (h2 : false = (!hx && ex t)) (h3 : false = (!hx && !hf && decide ((t.toNat : Int) = 46))) : stp (stE R2 R3 R4) t = none := by
  refine stops R2 R3 R4 t (fun hd => ?_) (fun h4 => ?_) (fun h4 h3' => ?_)
  · rw [hd] at h1
    have hb : bz = true := by cases bz <;> simp at h1 ⊢
    rw [hb] at hbz
    have : z2 = true ∧ hf = false ∧ hx = false := by cases z2 <;> cases hf <;> cases hx <;> simp at hbz ⊢
    exact ⟨HZ.1 this.1, HF.1 this.2.1, HX.1 this.2.2⟩
  · rw [HX.2 h4] at h2
    cases he : ex t with
    | false => rfl
    | true => rw [he] at h2; simp at h2
  · rw [HX.2 h4, HF.2 h3'] at h3
    intro e
    rw [decide_eq_true (eq46.1 e)] at h3
    simp at h3

end Go.Proofs.Qxb6606435a
