/-
  Seat b6606420a: the contracts of the small functions: isSpace, b1IsWS, b1IsQuote, zzBytes_.., b1Clone, b1Same.
-/
import Derived.Test.Qxb6606420aRows
import Derived.Test.Qxb6606420aPlain
import Derived.WalkKit
import Derived.ProofKit
import Derived.WalkSpells
import Derived.WalkLawsBesides
import Derived.Below
import Derived.OpenShut
import Derived.Deep.QuietTactic
import Derived.BigQuiet
import Derived.Laws.CopyOwn
import Derived.Deep.AppendLies
namespace Go.Proofs.Qxb6606420a
open Go.ChangeShapes Go.WideShapes Go.ChangeAt Go.RowKit
open Plain

/-- The slice at 'a', of 'n' elements, holds the bytes 'l'. -/
def Bs (w : World) (a : Option Addr) (n : Nat) (l : List UInt8) : Prop :=
  l.length = n ∧ (0 < n → ∃ b off, a = some ⟨b, off, none⟩ ∧ b < w.heap.size ∧ ∀ j, j < n → w.cell? ⟨b, off + j, none⟩ = some (.int .u8 ((l.getD j 0).toNat : Int)))

theorem Bs.keep {w w' : World} {a : Option Addr} {n : Nat} {l : List UInt8} (h : Bs w a n l) (hb : Below w.heap.size w w') : Bs w' a n l := by
  refine ⟨h.1, fun hn => ?_⟩
  obtain ⟨b, off, e, hlt, hc⟩ := h.2 hn
  exact ⟨b, off, e, Nat.lt_of_lt_of_le hlt hb.size, fun j hj => by rw [hb.cell (by exact hlt)]; exact hc j hj⟩

/-- A row of bytes that came in, as the shells' 'IsRow' tells it. -/
theorem bs_of_row {w : World} {a : Option Addr} {len cap : Nat} {zs : List Int}
    (h : (a = none ∧ len = 0 ∧ cap = 0 ∧ zs = []) ∨
      ∃ x, a = some x ∧ len ≤ cap ∧ cap ≤ maxLen ∧ zs.length = cap ∧ (∀ i, i < zs.length → w.cell? (x.add i) = some (.int .u8 (zs.getD i 0))) ∧ ∀ n ∈ zs, (Lit.int .u8 n).wf = true) :
    ∃ l, Bs w a len l ∧ len ≤ maxLen := by
  rcases h with ⟨rfl, rfl, rfl, rfl⟩ | ⟨x, rfl, hl, hm, hz, hcell, hwz⟩
  · exact ⟨[], ⟨rfl, fun h => absurd h (by omega)⟩, Nat.zero_le _⟩
  · refine ⟨(zs.take len).map (fun n => UInt8.ofNat n.toNat), ⟨by simp; omega, fun hn => ?_⟩, by omega⟩
    obtain ⟨b, off, spot⟩ := x
    have hspot : spot = none := by simpa [Addr.add] using World.cell?_spot (hcell 0 (by omega))
    subst hspot
    refine ⟨b, off, rfl, World.block_lt_of_cell? w ⟨b, off + 0, none⟩ (by simpa [Addr.add] using hcell 0 (by omega)), fun j hj => ?_⟩
    have h1 := hcell j (by omega)
    have hjz : j < zs.length := by omega
    have hw := hwz (zs[j]) (List.getElem_mem hjz)
    have e1 : zs.getD j 0 = zs[j] := by rw [List.getD_eq_getElem?_getD, List.getElem?_eq_getElem hjz]; rfl
    rw [e1] at h1
    have hb := bounds_u8 hw
    have e2 : (((zs.take len).map (fun n => UInt8.ofNat n.toNat)).getD j 0).toNat = zs[j].toNat := by
      rw [List.getD_eq_getElem?_getD, List.getElem?_map, List.getElem?_take, if_pos hj, List.getElem?_eq_getElem hjz]
      simp only [Option.map_some, Option.getD_some]
      rw [UInt8.toNat_ofNat']
      omega
    rw [e2]
    have e3 : ((zs[j].toNat : Nat) : Int) = zs[j] := by omega
    rw [e3]
    rw [add_plain] at h1
    exact h1

theorem ret_bool {a b : Bool} (h : a = b) : Ending.returned (.bool a) = .returned (.bool b) := by rw [h]

theorem beq_int (c : UInt8) (n : Nat) (hn : n < 256) : (c == UInt8.ofNat n) = ((c.toNat : Int) == (n : Int)) := by
  rw [Bool.eq_iff_iff]
  simp only [beq_iff_eq]
  rw [← UInt8.toNat_inj, UInt8.toNat_ofNat']
  omega

theorem ws_int (c : UInt8) : ws c = decide ((c.toNat : Int) = 32 ∨ (c.toNat : Int) = 9 ∨ (c.toNat : Int) = 10 ∨ (c.toNat : Int) = 11 ∨ (c.toNat : Int) = 12 ∨ (c.toNat : Int) = 13) := by
  unfold ws
  have h := beq_int c
  have e1 := h 32 (by omega); have e2 := h 9 (by omega); have e3 := h 10 (by omega); have e4 := h 11 (by omega); have e5 := h 12 (by omega); have e6 := h 13 (by omega)
  rw [show (32 : UInt8) = UInt8.ofNat 32 from rfl, show (9 : UInt8) = UInt8.ofNat 9 from rfl, show (10 : UInt8) = UInt8.ofNat 10 from rfl, show (11 : UInt8) = UInt8.ofNat 11 from rfl, show (12 : UInt8) = UInt8.ofNat 12 from rfl, show (13 : UInt8) = UInt8.ofNat 13 from rfl]
  rw [e1, e2, e3, e4, e5, e6, Bool.eq_iff_iff]
  simp only [Bool.or_eq_true, beq_iff_eq, decide_eq_true_eq]
  omega
theorem ws_yes {c : UInt8} (h : (c.toNat : Int) = 32 ∨ (c.toNat : Int) = 9 ∨ (c.toNat : Int) = 10 ∨ (c.toNat : Int) = 11 ∨ (c.toNat : Int) = 12 ∨ (c.toNat : Int) = 13) : ws c = true := by
  rw [ws_int]; exact decide_eq_true h
theorem ws_no {c : UInt8} (h : ¬ ((c.toNat : Int) = 32 ∨ (c.toNat : Int) = 9 ∨ (c.toNat : Int) = 10 ∨ (c.toNat : Int) = 11 ∨ (c.toNat : Int) = 12 ∨ (c.toNat : Int) = 13)) : ws c = false := by
  rw [ws_int]; exact decide_eq_false h

theorem qt_int (c : UInt8) : qt c = decide ((c.toNat : Int) = 34 ∨ (c.toNat : Int) = 39) := by
  unfold qt
  have h := beq_int c
  have e1 := h 34 (by omega); have e2 := h 39 (by omega)
  rw [show (34 : UInt8) = UInt8.ofNat 34 from rfl, show (39 : UInt8) = UInt8.ofNat 39 from rfl]
  rw [e1, e2, Bool.eq_iff_iff]
  simp only [Bool.or_eq_true, beq_iff_eq, decide_eq_true_eq]
  omega

set_option maxHeartbeats 400000 in
theorem isSpace_any (c : UInt8) (w : World) :
    Calls Try.prog 16 #[.int .u8 (c.toNat : Int)] w fun e w' => e = .returned (.bool (ws c)) ∧ w = w' := by
  by_cases h1 : (c.toNat : Int) = 32
  · have hw := ws_yes (c := c) (by omega)
    have h1 : ((c.toNat : Int) == 32) = true := by simpa using h1
    go_enter Try.func16, Try.ntmps16
    go_wp2
    go_ret
    exact ⟨ret_bool hw.symm, rfl⟩
  have h1' : ((c.toNat : Int) == 32) = false := by simpa using h1
  by_cases h2 : (c.toNat : Int) = 9
  · have hw := ws_yes (c := c) (by omega)
    have h2 : ((c.toNat : Int) == 9) = true := by simpa using h2
    clear h1
    go_enter Try.func16, Try.ntmps16
    go_wp2
    go_ret
    exact ⟨ret_bool hw.symm, rfl⟩
  have h2' : ((c.toNat : Int) == 9) = false := by simpa using h2
  by_cases h3 : (c.toNat : Int) = 10
  · have hw := ws_yes (c := c) (by omega)
    have h3 : ((c.toNat : Int) == 10) = true := by simpa using h3
    clear h1 h2
    go_enter Try.func16, Try.ntmps16
    go_wp2
    go_ret
    exact ⟨ret_bool hw.symm, rfl⟩
  have h3' : ((c.toNat : Int) == 10) = false := by simpa using h3
  by_cases h4 : (c.toNat : Int) = 11
  · have hw := ws_yes (c := c) (by omega)
    have h4 : ((c.toNat : Int) == 11) = true := by simpa using h4
    clear h1 h2 h3
    go_enter Try.func16, Try.ntmps16
    go_wp2
    go_ret
    exact ⟨ret_bool hw.symm, rfl⟩
  have h4' : ((c.toNat : Int) == 11) = false := by simpa using h4
  by_cases h5 : (c.toNat : Int) = 12
  · have hw := ws_yes (c := c) (by omega)
    have h5 : ((c.toNat : Int) == 12) = true := by simpa using h5
    clear h1 h2 h3 h4
    go_enter Try.func16, Try.ntmps16
    go_wp2
    go_ret
    exact ⟨ret_bool hw.symm, rfl⟩
  have h5' : ((c.toNat : Int) == 12) = false := by simpa using h5
  by_cases h6 : (c.toNat : Int) = 13
  · have hw := ws_yes (c := c) (by omega)
    have h6 : ((c.toNat : Int) == 13) = true := by simpa using h6
    clear h1 h2 h3 h4 h5
    go_enter Try.func16, Try.ntmps16
    go_wp2
    go_ret
    exact ⟨ret_bool hw.symm, rfl⟩
  have h6' : ((c.toNat : Int) == 13) = false := by simpa using h6
  have hw := ws_no (c := c) (by omega)
  clear h1 h2 h3 h4 h5 h6
  go_enter Try.func16, Try.ntmps16
  go_wp2
  go_ret
  exact ⟨ret_bool hw.symm, rfl⟩

end Go.Proofs.Qxb6606420a
