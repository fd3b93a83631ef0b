/-
  Seat b6606435a: the contracts of isDigit, skipDigits, scanNumber, ZZscanNumber.
-/
import Derived.Test.Qxb6606435aRows
import Derived.Test.Qxb6606435aPlain
import Derived.WalkKit
import Derived.ProofKit
import Derived.WalkSpells
import Derived.WalkLawsBesides
import Derived.Below
import Derived.OpenShut
import Derived.Laws.CopyOwn
import Derived.Deep.AppendLies
import Derived.Deep.DeepCutAuto
namespace Go.Proofs.Qxb6606435a
open Go.ChangeShapes Go.WideShapes Go.ChangeAt Go.RowKit
open Plain

/-- The slice at 'a', of 'n' elements, holds the bytes 'l'. -/
def Bs (w : World) (a : Option Addr) (n : Nat) (l : List UInt8) : Prop :=
  l.length = n ∧ (0 < n → ∃ b off, a = some ⟨b, off, none⟩ ∧ b < w.heap.size ∧ ∀ j, j < n → w.cell? ⟨b, off + j, none⟩ = some (.int .u8 ((l.getD j 0).toNat : Int)))

theorem Bs.keep {w w' : World} {a : Option Addr} {n : Nat} {l : List UInt8} (h : Bs w a n l) (hb : Below w.heap.size w w') : Bs w' a n l := by
  refine ⟨h.1, fun hn => ?_⟩
  obtain ⟨b, off, e, hlt, hc⟩ := h.2 hn
  exact ⟨b, off, e, Nat.lt_of_lt_of_le hlt hb.size, fun j hj => by rw [hb.cell (by exact hlt)]; exact hc j hj⟩

/-- A row of bytes that came in, as the shells' 'IsRow' tells it. -/
theorem bs_of_row {w : World} {a : Option Addr} {len cap : Nat} {zs : List Int}
    (h : (a = none ∧ len = 0 ∧ cap = 0 ∧ zs = []) ∨
      ∃ x, a = some x ∧ len ≤ cap ∧ cap ≤ maxLen ∧ zs.length = cap ∧ (∀ i, i < zs.length → w.cell? (x.add i) = some (.int .u8 (zs.getD i 0))) ∧ ∀ n ∈ zs, (Lit.int .u8 n).wf = true) :
    ∃ l, Bs w a len l ∧ len ≤ maxLen := by
  rcases h with ⟨rfl, rfl, rfl, rfl⟩ | ⟨x, rfl, hl, hm, hz, hcell, hwz⟩
  · exact ⟨[], ⟨rfl, fun h => absurd h (by omega)⟩, Nat.zero_le _⟩
  · refine ⟨(zs.take len).map (fun n => UInt8.ofNat n.toNat), ⟨by simp; omega, fun hn => ?_⟩, by omega⟩
    obtain ⟨b, off, spot⟩ := x
    have hspot : spot = none := by simpa [Addr.add] using World.cell?_spot (hcell 0 (by omega))
    subst hspot
    refine ⟨b, off, rfl, World.block_lt_of_cell? w ⟨b, off + 0, none⟩ (by simpa [Addr.add] using hcell 0 (by omega)), fun j hj => ?_⟩
    have h1 := hcell j (by omega)
    have hjz : j < zs.length := by omega
    have hw := hwz (zs[j]) (List.getElem_mem hjz)
    have e1 : zs.getD j 0 = zs[j] := by rw [List.getD_eq_getElem?_getD, List.getElem?_eq_getElem hjz]; rfl
    rw [e1] at h1
    have hb := bounds_u8 hw
    have e2 : (((zs.take len).map (fun n => UInt8.ofNat n.toNat)).getD j 0).toNat = zs[j].toNat := by
      rw [List.getD_eq_getElem?_getD, List.getElem?_map, List.getElem?_take, if_pos hj, List.getElem?_eq_getElem hjz]
      simp only [Option.map_some, Option.getD_some]
      rw [UInt8.toNat_ofNat']
      omega
    rw [e2]
    have e3 : ((zs[j].toNat : Nat) : Int) = zs[j] := by omega
    rw [e3]
    rw [add_plain] at h1
    exact h1

theorem ret_bool {a b : Bool} (h : a = b) : Ending.returned (.bool a) = .returned (.bool b) := by rw [h]

theorem eq_int (c : UInt8) (n : Nat) (hn : n < 256) : c = UInt8.ofNat n ↔ (c.toNat : Int) = (n : Int) := by
  rw [← UInt8.toNat_inj, UInt8.toNat_ofNat']
  omega
theorem eq45 {c : UInt8} : c = 45 ↔ (c.toNat : Int) = 45 := eq_int c 45 (by omega)
theorem eq46 {c : UInt8} : c = 46 ↔ (c.toNat : Int) = 46 := eq_int c 46 (by omega)
theorem eq48 {c : UInt8} : c = 48 ↔ (c.toNat : Int) = 48 := eq_int c 48 (by omega)
theorem eq43 {c : UInt8} : c = 43 ↔ (c.toNat : Int) = 43 := eq_int c 43 (by omega)
theorem eq69 {c : UInt8} : c = 69 ↔ (c.toNat : Int) = 69 := eq_int c 69 (by omega)
theorem eq101 {c : UInt8} : c = 101 ↔ (c.toNat : Int) = 101 := eq_int c 101 (by omega)

theorem dig_int (c : UInt8) : dig c = decide (48 ≤ (c.toNat : Int) ∧ (c.toNat : Int) ≤ 57) := by
  unfold dig
  rw [Bool.eq_iff_iff]
  simp only [Bool.and_eq_true, decide_eq_true_eq, UInt8.le_iff_toNat_le]
  have e1 : (48 : UInt8).toNat = 48 := rfl
  have e2 : (57 : UInt8).toNat = 57 := rfl
  rw [e1, e2]; omega
theorem dig_yes {c : UInt8} (h : 48 ≤ (c.toNat : Int) ∧ (c.toNat : Int) ≤ 57) : dig c = true := by rw [dig_int]; exact decide_eq_true h
theorem dig_no {c : UInt8} (h : ¬ (48 ≤ (c.toNat : Int) ∧ (c.toNat : Int) ≤ 57)) : dig c = false := by rw [dig_int]; exact decide_eq_false h
theorem dig_of {c : UInt8} (h : dig c = true) : 48 ≤ (c.toNat : Int) ∧ (c.toNat : Int) ≤ 57 := by rw [dig_int] at h; exact of_decide_eq_true h
theorem ex_int (c : UInt8) : ex c = decide ((c.toNat : Int) = 101 ∨ (c.toNat : Int) = 69) := by
  unfold ex
  rw [Bool.eq_iff_iff]
  simp only [Bool.or_eq_true, beq_iff_eq, decide_eq_true_eq, eq69, eq101]
theorem sg_int (c : UInt8) : sg c = decide ((c.toNat : Int) = 43 ∨ (c.toNat : Int) = 45) := by
  unfold sg
  rw [Bool.eq_iff_iff]
  simp only [Bool.or_eq_true, beq_iff_eq, decide_eq_true_eq, eq43, eq45]

set_option maxHeartbeats 400000 in
theorem isDigit_any (c : UInt8) (w : World) :
    Calls Try.prog 10 #[.int .u8 (c.toNat : Int)] w fun e w' => e = .returned (.bool (dig c)) ∧ w = w' := by
  by_cases h1 : 48 ≤ (c.toNat : Int)
  · by_cases h2 : (c.toNat : Int) ≤ 57
    · have HD : Hid (dig c = true) := dig_yes ⟨h1, h2⟩
      go_enter Try.func10, Try.ntmps10
      go_wp2
      go_ret
      exact ⟨ret_bool HD.out.symm, rfl⟩
    · have HD : Hid (dig c = false) := dig_no (by omega)
      go_enter Try.func10, Try.ntmps10
      go_wp2
      go_ret
      exact ⟨ret_bool HD.out.symm, rfl⟩
  · have HD : Hid (dig c = false) := dig_no (by omega)
    go_enter Try.func10, Try.ntmps10
    go_wp2
    go_ret
    exact ⟨ret_bool HD.out.symm, rfl⟩

theorem ret_int {k : IntKind} {a b : Int} (h : a = b) : Ending.returned (.int k a) = .returned (.int k b) := by rw [h]

/-- The byte at 'k', told in the world 'w'. -/
theorem Bs.at {w : World} {a : Option Addr} {n : Nat} {l : List UInt8} (h : Bs w a n l) {k : Nat} (hk : k < n) : ∃ b off, a = some ⟨b, off, none⟩ ∧ w.cell? ⟨b, off + k, none⟩ = some (.int .u8 ((l.getD k 0).toNat : Int)) := by
  obtain ⟨b, off, e, _, hc⟩ := h.2 (by omega)
  exact ⟨b, off, e, hc k hk⟩

set_option maxHeartbeats 800000 in
theorem skip_any (a : Option Addr) (n cap i : Nat) (L : List UInt8) (w : World) (HB : Hid (Bs w a n L)) (hn : n ≤ 2097152) (hi : i ≤ n) (j : Nat) (HJ : Hid (i + skipD (L.drop i) = j)) :
    Calls Try.prog 13 #[.slice a n cap, .int .i64 i] w fun e w' => e = .returned (.int .i64 (j : Int)) ∧ w = w' := by
  go_enter Try.func13, Try.ntmps13
  go_wp2
  go_loop [1] (fun s => ∃ k : Nat, k ≤ n ∧ s = .int .i64 k ∧ Hid (k + skipD (L.drop k) = j)) (fun s => n - (intOf s).toNat)
  case atStart => exact ⟨i, hi, rfl, HJ⟩
  case round =>
    obtain ⟨k, hk, rfl, HR⟩ := hrel
    by_cases hlt : k < n
    · obtain ⟨b, off, rfl, hck⟩ := HB.out.at hlt
      obtain ⟨d, hd⟩ : ∃ d, d = L.getD k 0 := ⟨_, rfl⟩
      rw [← hd] at hck
      have HD : Hid (d = L.getD k 0) := hd
      have hki : (k : Int) < (n : Int) := by omega
      have hkL : k < L.length := by rw [HB.out.1]; exact hlt
      clear hd
      by_cases h1 : 48 ≤ (d.toNat : Int)
      · by_cases h2 : (d.toNat : Int) ≤ 57
        · have HG : Hid (dig (L.getD k 0) = true) := by rw [← HD.out]; exact dig_yes ⟨h1, h2⟩
          go_wp2
          go_round
          case rel => exact ⟨k + 1, by omega, by go_num, (by show _ = _; rw [← HR.out, skipD_yes L k hkL HG.out]; omega)⟩
          case measure => simp [intOf]; omega
        · have HG : Hid (dig (L.getD k 0) = false) := by rw [← HD.out]; exact dig_no (by omega)
          go_wp2
          go_ret
          exact ⟨ret_int (a := (k : Int)) (by have h := HR.out; rw [skipD_no L k hkL HG.out] at h; omega), rfl⟩
      · have HG : Hid (dig (L.getD k 0) = false) := by rw [← HD.out]; exact dig_no (by omega)
        go_wp2
        go_ret
        exact ⟨ret_int (a := (k : Int)) (by have h := HR.out; rw [skipD_no L k hkL HG.out] at h; omega), rfl⟩
    · go_wp2
      go_ret
      exact ⟨ret_int (a := (k : Int)) (by have h := HR.out; rw [skipD_end L k (by rw [HB.out.1]; omega)] at h; omega), rfl⟩

end Go.Proofs.Qxb6606435a
