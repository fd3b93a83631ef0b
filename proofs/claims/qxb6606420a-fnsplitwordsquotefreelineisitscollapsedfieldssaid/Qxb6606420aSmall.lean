/-
  Seat b6606420a: the contracts of b1IsWS, b1IsQuote, zzBytes_.., b1Clone, b1Same.
-/
import Derived.Test.Qxb6606420aParts
namespace Go.Proofs.Qxb6606420a
open Go.ChangeShapes Go.WideShapes Go.ChangeAt Go.RowKit
open Plain

/-- The six bytes, by their place. -/
def wsAt (k : Nat) : Int := if k = 0 then 32 else if k = 1 then 9 else if k = 2 then 10 else if k = 3 then 11 else if k = 4 then 12 else 13

theorem wsAt_no {c : UInt8} (h : ∀ j, j < 6 → (c.toNat : Int) ≠ wsAt j) : ws c = false := by
  refine ws_no ?_
  have h0 := h 0 (by omega); have h1 := h 1 (by omega); have h2 := h 2 (by omega); have h3 := h 3 (by omega); have h4 := h 4 (by omega); have h5 := h 5 (by omega)
  simp [wsAt] at h0 h1 h2 h3 h4 h5
  omega
theorem wsAt_yes {c : UInt8} {j : Nat} (h : (c.toNat : Int) = wsAt j) : ws c = true := by
  refine ws_yes ?_
  unfold wsAt at h
  split at h
  · omega
  split at h
  · omega
  split at h
  · omega
  split at h
  · omega
  split at h <;> omega

theorem wsAt_byte (k : Nat) (hk : k < (⟨#[32, 9, 10, 11, 12, 13]⟩ : ByteArray).size) : ((((⟨#[32, 9, 10, 11, 12, 13]⟩ : ByteArray)[k]'hk).toNat : Nat) : Int) = wsAt k := by
  have h6 : k < 6 := hk
  match k, h6 with
  | 0, _ | 1, _ | 2, _ | 3, _ | 4, _ | 5, _ => rfl

set_option maxHeartbeats 800000 in
theorem isWS_any (c : UInt8) (w : World) :
    Calls Try.prog 10 #[.int .u8 (c.toNat : Int)] w fun e w' => e = .returned (.bool (ws c)) ∧ w = w' := by
  go_enter Try.func10, Try.ntmps10
  go_wp2
  go_loop [3] (fun i => ∃ k : Nat, k ≤ 6 ∧ i = .int .i64 k ∧ Hid (∀ j, j < k → (c.toNat : Int) ≠ wsAt j)) (fun i => 6 - (intOf i).toNat)
  case atStart => exact ⟨0, by omega, rfl, fun j hj => absurd hj (by omega)⟩
  case round =>
    obtain ⟨k, hk, rfl, HR⟩ := hrel
    by_cases hlt : k < 6
    · have hsz : k < (⟨#[32, 9, 10, 11, 12, 13]⟩ : ByteArray).size := hlt
      have HE : Hid (((((⟨#[32, 9, 10, 11, 12, 13]⟩ : ByteArray)[k]'hsz).toNat : Nat) : Int) = wsAt k) := wsAt_byte k hsz
      go_wp2
      · have h : ((c.toNat : Int) == ((((⟨#[32, 9, 10, 11, 12, 13]⟩ : ByteArray)[k]'hsz).toNat : Nat) : Int)) = true := by assumption
        go_ret
        exact ⟨ret_bool (wsAt_yes (j := k) (by rw [HE.out] at h; simpa using h)).symm, rfl⟩
      · have h : ((c.toNat : Int) == ((((⟨#[32, 9, 10, 11, 12, 13]⟩ : ByteArray)[k]'hsz).toNat : Nat) : Int)) = false := by assumption
        go_round
        case rel =>
          refine ⟨k + 1, by omega, by go_num, fun j hj => ?_⟩
          by_cases hjk : j < k
          · exact HR.out j hjk
          · obtain rfl : j = k := by omega
            rw [HE.out] at h
            simpa using h
        case measure => simp [intOf]; omega
    · have hkn : k = 6 := by omega
      subst hkn
      go_wp2
      go_ret
      exact ⟨ret_bool (wsAt_no HR.out).symm, rfl⟩

set_option maxHeartbeats 400000 in
theorem isQuote_any (c : UInt8) (w : World) :
    Calls Try.prog 7 #[.int .u8 (c.toNat : Int)] w fun e w' => e = .returned (.bool (qt c)) ∧ w = w' := by
  have hq := qt_int c
  by_cases h1 : (c.toNat : Int) = 34
  · have HW : Hid (qt c = true) := by show _ = _; rw [hq]; exact decide_eq_true (by omega)
    have h1 : ((c.toNat : Int) == 34) = true := by simpa using h1
    clear hq
    go_enter Try.func7, Try.ntmps7
    go_wp2
    go_ret
    exact ⟨ret_bool HW.out.symm, rfl⟩
  have h1' : ((c.toNat : Int) == 34) = false := by simpa using h1
  by_cases h2 : (c.toNat : Int) = 39
  · have HW : Hid (qt c = true) := by show _ = _; rw [hq]; exact decide_eq_true (by omega)
    have h2 : ((c.toNat : Int) == 39) = true := by simpa using h2
    clear hq h1
    go_enter Try.func7, Try.ntmps7
    go_wp2
    go_ret
    exact ⟨ret_bool HW.out.symm, rfl⟩
  have h2' : ((c.toNat : Int) == 39) = false := by simpa using h2
  have HW : Hid (qt c = false) := by show _ = _; rw [hq]; exact decide_eq_false (by omega)
  clear hq h1 h2
  go_enter Try.func7, Try.ntmps7
  go_wp2
  go_ret
  exact ⟨ret_bool HW.out.symm, rfl⟩

set_option maxHeartbeats 400000 in
theorem bytes6_yes (a0 : Option Addr) (n0 c0 : Nat) (w : World) (h : n0 ≤ 1048576) :
    Calls Try.prog 6 #[.slice a0 n0 c0] w fun e w' => e = .returned (.bool true) ∧ w = w' := by
  go_enter Try.func6, Try.ntmps6
  go_wp2
  go_ret
  exact ⟨rfl, rfl⟩

set_option maxHeartbeats 400000 in
theorem bytes6_no (a0 : Option Addr) (n0 c0 : Nat) (w : World) (h : 1048576 < n0) (h0 : n0 ≤ maxLen) :
    Calls Try.prog 6 #[.slice a0 n0 c0] w fun e w' => e = .returned (.bool false) ∧ w = w' := by
  unfold maxLen at h0
  go_enter Try.func6, Try.ntmps6
  go_wp2
  go_ret
  exact ⟨rfl, rfl⟩

theorem Try.info5 : (Try.prog.info? 5).map (fun i => (i.zero, i.size, i.bytes)) = some (some (.int .u8 0), 1, 1) := by kernel_rfl
theorem Try.size5 : (Try.prog.info? 5).map (·.size) = some 1 := by kernel_rfl

/-- The cells of a row of bytes. -/
def byteV (l : List UInt8) : List Value := l.map (fun c => Value.int .u8 (c.toNat : Int))
theorem byteV_length (l : List UInt8) : (byteV l).length = l.length := by simp [byteV]
theorem byteV_at (l : List UInt8) (j : Nat) (hj : j < l.length) : (byteV l)[j]? = some (.int .u8 ((l.getD j 0).toNat : Int)) := by
  unfold byteV
  rw [List.getElem?_map, List.getD_eq_getElem?_getD, List.getElem?_eq_getElem hj]; rfl
theorem byteV_one (l : List UInt8) : ∀ u ∈ byteV l, u.oneCell' = true := by
  intro u hu
  obtain ⟨c, _, rfl⟩ := List.mem_map.1 hu
  rfl

/-- 'copy(c, b)', c just made, b whatever. -/
theorem copy_run {w0 w1 : World} {B g n cap : Nat} {a : Option Addr} {l : List UInt8} {xs : List Value} (hb : Bs w1 a n l) (hown : w1.ownsRow B 5 1 (.slice (some ⟨g, 0, none⟩) n n) n xs) (hB : Below B w0 w1) :
    ∃ w2, (∀ ty, (Builtin.copy_ #[22, 22] ty #[.slice (some ⟨g, 0, none⟩) n n, .slice a n cap]).run Try.prog w1 = .ok (goInt n) w2) ∧ Hid (Bs w2 (some ⟨g, 0, none⟩) n l) ∧ Hid (Below B w0 w2) := by
  by_cases hn : n = 0
  · subst hn
    refine ⟨w1, fun ty => run_copy_none w1 22 22 ty 5 _ _ 0 0 0 cap Try.underlying22 Try.size5 (by simp), ⟨hb.1, fun h => absurd h (by omega)⟩, hB⟩
  · obtain ⟨b, off, rfl, hlt, hc⟩ := hb.2 (by omega)
    rcases hown.2 with ⟨h', _⟩ | ⟨g', cap', cur, h', hbg, hg, _, _, hcs, _⟩
    · simp at h'
    · simp only [Value.slice.injEq, Option.some.injEq, Addr.mk.injEq, and_true, true_and] at h'
      obtain ⟨rfl, rfl⟩ := h'
      have hlen : (byteV l).length = n := by rw [byteV_length, hb.1]
      have hrun := fun ty => run_copy_row (P := Try.prog) w1 22 22 ty 5 g 0 n n ⟨b, off, none⟩ n cap cur 5 (byteV l) Try.underlying22 Try.size5 hg (by rw [hlen]; simp)
        (fun j v hj => by
          have hjl : j < l.length := by have := (List.getElem?_eq_some_iff.1 hj).1; rwa [byteV_length] at this
          rw [byteV_at l j hjl] at hj
          rw [add_plain, hc j (by rw [hb.1] at hjl; exact hjl)]; exact hj) (by rw [hlen]; omega) (byteV_one l)
      rw [hlen] at hrun
      refine ⟨_, hrun, ⟨hb.1, fun _ => ⟨g, 0, rfl, ?_, fun j hj => ?_⟩⟩, below_setRow hB hbg _⟩
      · have := (hown.lt g rfl).2
        simpa [World.setRow] using this
      · have hh := setRow_heap w1 g cur (cur.toList.take 0 ++ byteV l ++ cur.toList.drop (0 + n)).toArray 5 (0, 0) hg
        rw [cell_of_row _ g (0 + j) _ 5 (0, 0) hh]
        have : j < (byteV l).length := by rw [hlen]; exact hj
        simp only [List.take_zero, List.nil_append, List.getElem?_toArray]
        rw [show 0 + j = j from Nat.zero_add j, List.getElem?_append_left this]
        exact byteV_at l j (by rw [hb.1]; exact hj)

set_option maxHeartbeats 400000 in
theorem clone_any (a : Option Addr) (n cap : Nat) (l : List UInt8) (w : World) (hb : Bs w a n l) (hn : n ≤ 1048576) :
    Calls Try.prog 8 #[.slice a n cap] w fun e w' => ∃ a' cap', e = .returned (.slice a' n cap') ∧ Hid (Bs w' a' n l) ∧ Hid (Below w.heap.size w w') := by
  have hnil : ∀ (w : World) (a : Option Addr) (n c n' c' : Nat), (binOp .eql 22 (.slice a n c) (.slice none n' c')).run Try.prog w = .ok (.bool a.isNone) w := fun w a n c n' c' => Lib.run_eql_slice_nil w _ _ a n c n' c' Try.underlying22
  have HB : Hid (Bs w a n l) := hb
  rcases a with _ | ad
  · have h0 : n = 0 := by
      by_cases h : 0 < n
      · obtain ⟨b, off, e, _⟩ := hb.2 h
        cases e
      · omega
    subst h0
    clear hb
    go_enter Try.func8, Try.ntmps8
    go_wp2
    go_ret
    exact ⟨none, 0, rfl, ⟨HB.out.1, fun h => absurd h (by omega)⟩, Below.refl _ _⟩
  · obtain ⟨i0, hi, hz0, hz1, hz2⟩ := info_parts Try.info5
    clear hb
    go_enter Try.func8, Try.ntmps8
    go_wp2_with (at_make; refine wpList_make_full _ rfl (.tmp 7) (.tmp 7) 22 rfl w.heap.size 5 i0 (.int .u8 0) 1 Try.underlying22 hi hz0 hz1 .i64 .i64 _ _ n rfl rfl rfl rfl (by rw [hz2]; omega) (by unfold maxLen; omega) (Nat.le_refl _) ?_; intro w1 hown1 hg1; have hB1 : Below w.heap.size w w1 := (Below.refl _ _).grown hg1 (Nat.le_refl _) (fun k h => by cases h); obtain ⟨w2, hcp, HB2, HW2⟩ := copy_run (cap := cap) (HB.out.keep hB1) hown1 hB1; clear hown1 hg1 hB1)
    go_ret
    exact ⟨some ⟨w.heap.size, 0, none⟩, n, rfl, HB2, HW2⟩

/-- The world but for draws. -/
def Still (w w' : World) : Prop := ∃ m, w' = w.drewN m
theorem Still.below {w w' : World} (h : Still w w') {B : Nat} : Below B w w' := by
  obtain ⟨m, rfl⟩ := h
  exact ⟨rfl, rfl, rfl, Nat.le_refl _, fun _ _ => rfl⟩
theorem Still.more {w w' : World} (h : Still w w') (m : Nat) : Still w (w'.drewN m) := by
  obtain ⟨k, rfl⟩ := h
  exact ⟨k + m, World.drewN_drewN _ _ _⟩

set_option maxHeartbeats 400000 in
/-- b1Same, on two slices that hold the same bytes. -/
theorem same_yes (a a' : Option Addr) (n cap cap' : Nat) (l : List UInt8) (w : World) (hb : Bs w a n l) (hb' : Bs w a' n l) (hn : n ≤ 4194304) :
    Calls Try.prog 11 #[.slice a n cap, .slice a' n cap'] w fun e w' => e = .returned (.bool true) ∧ Hid (Still w w') := by
  obtain ⟨HL, hcells⟩ := hb
  obtain ⟨HL', hcells'⟩ := hb'
  clear HL HL'
  go_enter Try.func11, Try.ntmps11
  go_wp2
  go_loopw [5] (fun i wr => ∃ k : Nat, k ≤ n ∧ i = .int .i64 k ∧ Hid (Still w wr)) (fun i _ => n - (intOf i).toNat)
  case atStart => exact ⟨0, Nat.zero_le _, rfl, 0, rfl⟩
  case round =>
    obtain ⟨k, hk, rfl, HW⟩ := hrel
    by_cases hlt : k < n
    · obtain ⟨b, off, rfl, hbl, hc⟩ := hcells (by omega)
      obtain ⟨b', off', rfl, hbl', hc'⟩ := hcells' (by omega)
      have hck : wr.cell? ⟨b, off + k, none⟩ = some (.int .u8 ((l.getD k 0).toNat : Int)) := by
        rw [HW.out.below.cell (B := w.heap.size) (by exact hbl)]; exact hc k hlt
      have hck' : wr.cell? ⟨b', off' + k, none⟩ = some (.int .u8 ((l.getD k 0).toNat : Int)) := by
        rw [HW.out.below.cell (B := w.heap.size) (by exact hbl')]; exact hc' k hlt
      obtain ⟨c, hcc⟩ : ∃ c, c = l.getD k 0 := ⟨_, rfl⟩
      rw [← hcc] at hck hck'
      have hki : (k : Int) < (n : Int) := by omega
      clear hcc hc hcells hc' hcells'
      go_wp2
      go_quiet (fail)
      go_wp2
      go_roundw
      case rel => exact ⟨k + 1, by omega, by go_num, HW.out.more nq⟩
      case measure => simp [intOf]; omega
    · go_wp2
      go_ret
      exact ⟨rfl, HW⟩

end Go.Proofs.Qxb6606420a
