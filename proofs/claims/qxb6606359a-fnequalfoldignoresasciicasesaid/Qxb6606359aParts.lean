/-
  Seat b6606359a: the contracts of the functions that all three laws go through: lower, equalFold, ZZEqualFold, zzCloneBytes.
-/
import Derived.Test.Qxb6606359aRows
import Derived.Test.Qxb6606359aPlain
import Derived.WalkKit
import Derived.ProofKit
import Derived.WalkSpells
import Derived.WalkLawsBesides
import Derived.Below
import Derived.Deep.QuietTactic
import Derived.BigQuiet
import Derived.Laws.IdiomStrings
namespace Go.Proofs.Qxb6606359a
open Go.ChangeShapes Go.WideShapes Go.ChangeAt Go.RowKit
open Plain

/-- The slice at 'a', of 'n' elements, holds the bytes 'l'. -/
def Bs (w : World) (a : Option Addr) (n : Nat) (l : List UInt8) : Prop :=
  l.length = n ∧ (0 < n → ∃ b off, a = some ⟨b, off, none⟩ ∧ b < w.heap.size ∧ ∀ j, j < n → w.cell? ⟨b, off + j, none⟩ = some (.int .u8 ((l.getD j 0).toNat : Int)))

theorem Bs.keep {w w' : World} {a : Option Addr} {n : Nat} {l : List UInt8} (h : Bs w a n l) (hb : Below w.heap.size w w') : Bs w' a n l := by
  refine ⟨h.1, fun hn => ?_⟩
  obtain ⟨b, off, e, hlt, hc⟩ := h.2 hn
  exact ⟨b, off, e, Nat.lt_of_lt_of_le hlt hb.size, fun j hj => by rw [hb.cell (by exact hlt)]; exact hc j hj⟩

theorem ret_bool {a b : Bool} (h : a = b) : Ending.returned (.bool a) = .returned (.bool b) := by rw [h]

theorem lower_eq (c : UInt8) : ((lowB c).toNat : Int) = if 65 ≤ (c.toNat : Int) ∧ (c.toNat : Int) ≤ 90 then (c.toNat : Int) + 32 else c.toNat := by
  unfold lowB
  have h1 : (65 ≤ c ∧ c ≤ 90) ↔ (65 ≤ (c.toNat : Int) ∧ (c.toNat : Int) ≤ 90) := by
    simp only [UInt8.le_iff_toNat_le]
    have e1 : (65 : UInt8).toNat = 65 := rfl
    have e2 : (90 : UInt8).toNat = 90 := rfl
    rw [e1, e2]; omega
  by_cases h : 65 ≤ c ∧ c ≤ 90
  · rw [if_pos h, if_pos (h1.1 h), UInt8.toNat_add]
    have := (h1.1 h).2
    have e3 : (32 : UInt8).toNat = 32 := rfl
    rw [e3]; omega
  · rw [if_neg h, if_neg (fun k => h (h1.2 k))]

theorem ret_int {k : IntKind} {a b : Int} (h : a = b) : Ending.returned (.int k a) = .returned (.int k b) := by rw [h]

set_option maxHeartbeats 400000 in
theorem lower_any (c : UInt8) (w : World) :
    Calls Try.prog 15 #[.int .u8 (c.toNat : Int)] w fun e w' => e = .returned (.int .u8 ((lowB c).toNat : Int)) ∧ w' = w := by
  have he := lower_eq c
  have hc := c.toNat_lt
  have HE : Hid (((lowB c).toNat : Int) = if 65 ≤ (c.toNat : Int) ∧ (c.toNat : Int) ≤ 90 then (c.toNat : Int) + 32 else c.toNat) := he
  clear he
  by_cases h1 : 65 ≤ (c.toNat : Int)
  · by_cases h2 : (c.toNat : Int) ≤ 90
    · go_enter Try.func15, Try.ntmps15
      go_wp2
      go_ret
      exact ⟨ret_int (a := (c.toNat : Int) + 97 - 65) (by rw [HE.out, if_pos ⟨h1, h2⟩]; omega), rfl⟩
    · go_enter Try.func15, Try.ntmps15
      go_wp2
      go_ret
      exact ⟨ret_int (a := (c.toNat : Int)) (by rw [HE.out, if_neg (by omega)]), rfl⟩
  · go_enter Try.func15, Try.ntmps15
    go_wp2
    go_ret
    exact ⟨ret_int (a := (c.toNat : Int)) (by rw [HE.out, if_neg (by omega)]), rfl⟩

theorem getD_data (s : ByteArray) (k : Nat) (h : k < s.size) : s.data.toList.getD k 0 = s[k] := by
  rw [List.getD_eq_getElem?_getD, List.getElem?_eq_getElem (by simpa using h)]; rfl

theorem neq_byte {x y : UInt8} : ((x.toNat : Int) != (y.toNat : Int)) = true → x ≠ y := by
  intro h e; subst e; simp at h
theorem eq_byte {x y : UInt8} : ((x.toNat : Int) != (y.toNat : Int)) = false → x = y := by
  intro h; simp at h; exact UInt8.toNat_inj.1 (by omega)

set_option maxHeartbeats 400000 in
theorem equalFold_any (a : Option Addr) (n cap : Nat) (l : List UInt8) (s : ByteArray) (w : World) (hb : Bs w a n l) (hn : n ≤ 1048576) (hs : s.size ≤ 1048576) :
    Calls Try.prog 14 #[.slice a n cap, .string s] w fun e w' => e = .returned (.bool (foldB l s.data.toList)) ∧ ∃ m, w' = w.drewN m := by
  obtain ⟨HL, hcells⟩ := hb
  have HL : Hid (l.length = n) := HL
  by_cases hlen : n = s.size
  · subst hlen
    go_enter Try.func14, Try.ntmps14
    go_wp2
    go_loopw [13] (fun i wr => ∃ k : Nat, k ≤ s.size ∧ i = .int .i64 k ∧ Hid (∃ m, wr = w.drewN m) ∧ Hid (∀ j, j < k → lowB (l.getD j 0) = lowB (s.data.toList.getD j 0))) (fun i _ => s.size - (intOf i).toNat)
    case atStart => exact ⟨0, Nat.zero_le _, rfl, ⟨0, rfl⟩, fun j hj => absurd hj (by omega)⟩
    case round =>
      obtain ⟨k, hk, rfl, HW, HR⟩ := hrel
      by_cases hlt : k < s.size
      · obtain ⟨b, off, rfl, hbl, hc⟩ := hcells (by omega)
        have hck : wr.cell? ⟨b, off + k, none⟩ = some (.int .u8 ((l.getD k 0).toNat : Int)) := by
          obtain ⟨m, rfl⟩ := HW.out
          exact hc k hlt
        obtain ⟨c, hcc⟩ : ∃ c, c = l.getD k 0 := ⟨_, rfl⟩
        rw [← hcc] at hck
        have HC : Hid (c = l.getD k 0) := hcc
        have hki : (k : Int) < (s.size : Int) := by omega
        clear hcc hc hcells
        go_wp2
        go_quiet ((go_at_call 15; exact Calls.quiet_of_same (lower_any _ _)))
        go_wp2
        · have hne : ((lowB c).toNat : Int) != ((lowB s[k]).toNat : Int) := by assumption
          go_ret
          refine ⟨ret_bool (a := false) ?_, ?_⟩
          · rw [foldB_no k (by rw [HL.out]; exact hlt) (by simpa using hlt)]
            rw [getD_data s k hlt, ← HC.out]
            exact neq_byte hne
          · obtain ⟨m, rfl⟩ := HW.out
            exact ⟨m + nq, World.drewN_drewN _ _ _⟩
        · have heq : (((lowB c).toNat : Int) != ((lowB s[k]).toNat : Int)) = false := by assumption
          go_roundw
          case rel =>
            refine ⟨k + 1, by omega, by go_num, ?_, ?_⟩
            · obtain ⟨m, rfl⟩ := HW.out
              exact ⟨m + nq, World.drewN_drewN _ _ _⟩
            · intro j hj
              by_cases hjk : j < k
              · exact HR.out j hjk
              · obtain rfl : j = k := by omega
                rw [getD_data s j hlt, ← HC.out]
                exact eq_byte heq
          case measure => simp [intOf]; omega
      · have hks : k = s.size := by omega
        go_wp2
        go_ret
        exact ⟨ret_bool (a := true) (by rw [foldB_yes (by rw [HL.out]; simp) (fun j hj => HR.out j (by rw [HL.out] at hj; omega))]), HW.out⟩
  · have hne : ((n : Int) == (s.size : Int)) = false := by simp; omega
    go_enter Try.func14, Try.ntmps14
    go_wp2
    go_ret
    exact ⟨ret_bool (a := false) (by rw [foldB_len]; rw [HL.out]; simpa using hlen), 0, rfl⟩

set_option maxHeartbeats 400000 in
theorem zzEqualFold_any (a : Option Addr) (n cap : Nat) (l : List UInt8) (s : ByteArray) (w : World) (hb : Bs w a n l) (hn : n ≤ 1048576) (hs : s.size ≤ 1048576) :
    Calls Try.prog 8 #[.slice a n cap, .string s] w fun e w' => e = .returned (.bool (foldB l s.data.toList)) ∧ ∃ m, w' = w.drewN m := by
  go_enter Try.func8, Try.ntmps8
  go_wp2_with (go_at_call 14; refine (equalFold_any a n cap l s _ hb hn hs).mono ?_; rintro e w' ⟨rfl, m, rfl⟩)
  go_ret
  exact ⟨rfl, m, rfl⟩

theorem Try.info5 : (Try.prog.info? 5).map (fun i => (i.zero, i.size, i.bytes)) = some (some (.int .u8 0), 1, 1) := by kernel_rfl

/-- What a loop 'out[i] = ..' has filled so far. -/
def Fills (w : World) (base g n k : Nat) (f : Nat → UInt8) : Prop :=
  ∃ xs, w.ownsRow base 5 1 (.slice (some ⟨g, 0, none⟩) n n) n xs ∧ ∀ j, j < k → xs[j]? = some (.int .u8 ((f j).toNat : Int))

theorem Fills.cell {w : World} {base g n k : Nat} {f : Nat → UInt8} (h : Fills w base g n k f) (j : Nat) (hj : j < n) : (∃ v, w.cell? ⟨g, j, none⟩ = some v) ∧ w.frozen? ⟨g, j, none⟩ = false := by
  obtain ⟨xs, hown, _⟩ := h
  refine ⟨?_, hown.frozenAt j⟩
  rw [hown.cellAt j (by omega)]
  have : j < xs.length := by have := hown.1; omega
  exact ⟨_, List.getElem?_eq_getElem this⟩

theorem Fills.step {w : World} {base g n k : Nat} {f : Nat → UInt8} (h : Fills w base g n k f) (hk : k < n) (c : UInt8) (hc : c = f k) :
    Fills (w.setCell ⟨g, k, none⟩ (.int .u8 (c.toNat : Int))) base g n (k + 1) f := by
  obtain ⟨xs, hown, hx⟩ := h
  refine ⟨_, (hown.stored k (.int .u8 (c.toNat : Int))).1, fun j hj => ?_⟩
  have hl : k < xs.length := by have := hown.1; omega
  by_cases hjk : j = k
  · subst hjk; rw [List.getElem?_set_self hl, hc]
  · rw [List.getElem?_set_ne (by omega)]; exact hx j (by omega)

theorem Fills.bs {w : World} {base g n : Nat} {l : List UInt8} (hl : l.length = n) (h : Fills w base g n n (fun j => l.getD j 0)) : Bs w (some ⟨g, 0, none⟩) n l := by
  obtain ⟨xs, hown, hx⟩ := h
  refine ⟨hl, fun hn => ⟨g, 0, rfl, (hown.lt g rfl).2, fun j hj => ?_⟩⟩
  rw [Nat.zero_add, hown.cellAt j (by omega)]
  exact hx j hj

theorem Fills.start {w : World} {base g n : Nat} {f : Nat → UInt8} {xs : List Value} (h : w.ownsRow base 5 1 (.slice (some ⟨g, 0, none⟩) n n) n xs) : Fills w base g n 0 f := ⟨xs, h, fun j hj => absurd hj (by omega)⟩

set_option maxHeartbeats 400000 in
theorem clone_any (a : Option Addr) (n cap : Nat) (l : List UInt8) (w : World) (hb : Bs w a n l) (hn : n ≤ 1048576) :
    Calls Try.prog 7 #[.slice a n cap] w fun e w' => ∃ a' cap', e = .returned (.slice a' n cap') ∧ Bs w' a' n l ∧ Below w.heap.size w w' := by
  have hnil : ∀ (w : World) (a : Option Addr) (n c n' c' : Nat), (binOp .eql 22 (.slice a n c) (.slice none n' c')).run Try.prog w = .ok (.bool a.isNone) w := fun w a n c n' c' => Lib.run_eql_slice_nil w _ _ a n c n' c' Try.underlying22
  rcases a with _ | ad
  · have h0 : n = 0 := by
      by_cases h : 0 < n
      · obtain ⟨b, off, e, _⟩ := hb.2 h
        cases e
      · omega
    subst h0
    go_enter Try.func7, Try.ntmps7
    go_wp2
    go_ret
    exact ⟨none, 0, rfl, ⟨hb.1, fun h => absurd h (by omega)⟩, Below.refl _ _⟩
  · obtain ⟨i0, hi, hz0, hz1, hz2⟩ := info_parts Try.info5
    obtain ⟨HL, hcells⟩ := hb
    have HL : Hid (l.length = n) := HL
    go_enter Try.func7, Try.ntmps7
    go_wp2_with (at_make; refine wpList_make_full _ rfl (.tmp 8) (.tmp 8) 22 rfl w.heap.size 5 i0 (.int .u8 0) 1 Try.underlying22 hi hz0 hz1 .i64 .i64 _ _ n rfl rfl rfl rfl (by rw [hz2]; omega) (by unfold maxLen; omega) (Nat.le_refl _) ?_; intro w1 hown1 hg1)
    go_loopw [4] (fun i wr => ∃ k : Nat, k ≤ n ∧ i = .int .i64 k ∧ Hid (Fills wr w.heap.size w.heap.size n k (fun j => l.getD j 0)) ∧ Hid (Below w.heap.size w wr)) (fun i _ => n - (intOf i).toNat)
    case atStart => exact ⟨0, Nat.zero_le _, rfl, Fills.start hown1, (Below.refl _ _).grown hg1 (Nat.le_refl _) (fun k h => by cases h)⟩
    case round =>
      obtain ⟨k, hk, rfl, HX, HB⟩ := hrel
      by_cases hlt : k < n
      · obtain ⟨b, off, e, hbl, hc⟩ := hcells (by omega)
        cases e
        have hck : wr.cell? ⟨b, off + k, none⟩ = some (.int .u8 ((l.getD k 0).toNat : Int)) := by rw [HB.out.cell (by exact hbl)]; exact hc k hlt
        obtain ⟨c, hcc⟩ : ∃ c, c = l.getD k 0 := ⟨_, rfl⟩
        rw [← hcc] at hck
        have HC : Hid (c = l.getD k 0) := hcc
        have hki : (k : Int) < (n : Int) := by omega
        obtain ⟨⟨v, hv⟩, hfz⟩ := HX.out.cell k hlt
        clear hcc hc hcells
        go_wp2
        go_roundw
        case rel => exact ⟨k + 1, by omega, by go_num, HX.out.step hlt c HC.out, HB.out.setCell (by exact Nat.le_refl _) _⟩
        case measure => simp [intOf]; omega
      · have hkn : k = n := by omega
        go_wp2
        go_ret
        exact ⟨some ⟨w.heap.size, 0, none⟩, n, rfl, Fills.bs HL.out (by have := HX.out; rwa [hkn] at this), HB.out⟩

end Go.Proofs.Qxb6606359a
