/-
  Seat b6606359a: what all three laws' walks lean on besides the contracts: from the row that came in to bytes; string(b); the contracts over worlds that are letters.
-/
import Derived.Test.Qxb6606359aParts
import Derived.Deep.RegionWith
import Derived.OpenShut
import Derived.Deep.DrawnRows
namespace Go.Proofs.Qxb6606359a
open Go.ChangeShapes Go.WideShapes Go.ChangeAt Go.RowKit
open Plain

theorem Bs.same {w : World} {a : Option Addr} {n m : Nat} {l : List UInt8} (h : Bs w a n l) : Bs (w.drewN m) a n l := h.keep ⟨rfl, rfl, rfl, Nat.le_refl _, fun _ _ => rfl⟩

/-- 'string(b)'. -/
theorem Bs.string {w : World} {a : Option Addr} {n cap : Nat} {l : List UInt8} (h : Bs w a n l) :
    (convert 22 9 (.slice a n cap)).run Try.prog w = .ok (.string ⟨l.toArray⟩) w := by
  obtain ⟨hl, hc⟩ := h
  rcases a with _ | ad
  · have h0 : n = 0 := by
      by_cases h : 0 < n
      · obtain ⟨b, off, e, _⟩ := hc h
        cases e
      · omega
    subst h0
    obtain rfl : l = [] := List.eq_nil_of_length_eq_zero hl
    rw [run_convert_bytes_string w 22 9 5 none 0 cap Try.underlying22 Try.underlying5 Try.underlying9]
    rfl
  · subst hl
    refine run_convert_bytes_back (P := Try.prog) w 22 9 5 ad cap l Try.underlying22 Try.underlying5 Try.underlying9 (fun j hj => ?_)
    obtain ⟨b, off, e, _, hcell⟩ := hc (by omega)
    cases e
    have := hcell j hj
    rw [List.getD_eq_getElem?_getD, List.getElem?_eq_getElem hj] at this
    rw [add_plain]
    simpa using this

/-- A row of bytes that came in, as the shells' 'IsRow' tells it. -/
theorem bs_of_row {w : World} {a : Option Addr} {len cap : Nat} {zs : List Int}
    (h : (a = none ∧ len = 0 ∧ cap = 0 ∧ zs = []) ∨
      ∃ x, a = some x ∧ len ≤ cap ∧ cap ≤ maxLen ∧ zs.length = cap ∧ (∀ i, i < zs.length → w.cell? (x.add i) = some (.int .u8 (zs.getD i 0))) ∧ ∀ n ∈ zs, (Lit.int .u8 n).wf = true) :
    ∃ l, Bs w a len l ∧ len ≤ maxLen := by
  rcases h with ⟨rfl, rfl, rfl, rfl⟩ | ⟨x, rfl, hl, hm, hz, hcell, hwz⟩
  · exact ⟨[], ⟨rfl, fun h => absurd h (by omega)⟩, Nat.zero_le _⟩
  · refine ⟨(zs.take len).map (fun n => UInt8.ofNat n.toNat), ⟨by simp; omega, fun hn => ?_⟩, by omega⟩
    obtain ⟨b, off, spot⟩ := x
    have hspot : spot = none := by simpa [Addr.add] using World.cell?_spot (hcell 0 (by omega))
    subst hspot
    refine ⟨b, off, rfl, World.block_lt_of_cell? w ⟨b, off + 0, none⟩ (by simpa [Addr.add] using hcell 0 (by omega)), fun j hj => ?_⟩
    have h1 := hcell j (by omega)
    have hjz : j < zs.length := by omega
    have hw := hwz (zs[j]) (List.getElem_mem hjz)
    have e1 : zs.getD j 0 = zs[j] := by rw [List.getD_eq_getElem?_getD, List.getElem?_eq_getElem hjz]; rfl
    rw [e1] at h1
    have hb := bounds_u8 hw
    have e2 : (((zs.take len).map (fun n => UInt8.ofNat n.toNat)).getD j 0).toNat = zs[j].toNat := by
      rw [List.getD_eq_getElem?_getD, List.getElem?_map, List.getElem?_take, if_pos hj, List.getElem?_eq_getElem hjz]
      simp only [Option.map_some, Option.getD_some]
      rw [UInt8.toNat_ofNat']
      omega
    rw [e2]
    have e3 : ((zs[j].toNat : Nat) : Int) = zs[j] := by omega
    rw [e3]
    rw [add_plain] at h1
    exact h1

/-- The world but for draws. -/
def Still (w w' : World) : Prop := ∃ m, w' = w.drewN m
theorem Still.below {w w' : World} (h : Still w w') {B : Nat} : Below B w w' := by
  obtain ⟨m, rfl⟩ := h
  exact ⟨rfl, rfl, rfl, Nat.le_refl _, fun _ _ => rfl⟩

theorem Bs.still {w w' : World} {a : Option Addr} {n : Nat} {l : List UInt8} (h : Bs w a n l) (k : Still w w') : Bs w' a n l := h.keep k.below
theorem Bs.drew {w : World} {a : Option Addr} {n : Nat} {l : List UInt8} (h : Bs w a n l) : Bs w.drew a n l := h.keep (Below.refl _ _).drew
theorem Bs.alloc {w : World} {a : Option Addr} {n : Nat} {l : List UInt8} (h : Bs w a n l) (o : Obj) : Bs (w.alloc o) a n l := h.keep ((Below.refl _ _).alloc (Nat.le_refl _) _)

/-- '[]byte(s)': the new row holds the string's bytes. -/
theorem bs_new (w : World) (s : ByteArray) (cap lo hi : Nat) : Bs (w.alloc (.cells (bytesRow s cap) 5 (lo, hi))) (some ⟨w.heap.size, 0, none⟩) s.size s.data.toList := by
  refine ⟨by simp, fun hn => ⟨w.heap.size, 0, rfl, by simp, fun j hj => ?_⟩⟩
  rw [Nat.zero_add, World.cell?_alloc_mark, bytesRow_at s cap j (by simpa using hj)]
  have hj' : j < s.data.size := by simpa using hj
  rw [List.getD_eq_getElem?_getD, List.getElem?_eq_getElem (by simpa using hj)]
  simp

theorem zzEF (a : Option Addr) (n cap : Nat) (l : List UInt8) (s : ByteArray) (w : World) (x : Bool) (hb : Bs w a n l) (hn : n ≤ 1048576) (hs : s.size ≤ 1048576) (hx : foldB l s.data.toList = x) :
    Calls Try.prog 8 #[.slice a n cap, .string s] w fun e w' => e = .returned (.bool x) ∧ Hid (Still w w') := by
  refine (zzEqualFold_any a n cap l s w hb hn hs).mono ?_
  rintro e w' ⟨rfl, m, rfl⟩
  exact ⟨by rw [hx], m, rfl⟩

theorem clone_h (a : Option Addr) (n cap : Nat) (l : List UInt8) (w : World) (hb : Bs w a n l) (hn : n ≤ 1048576) :
    Calls Try.prog 7 #[.slice a n cap] w fun e w' => ∃ a' cap', e = .returned (.slice a' n cap') ∧ Hid (Bs w' a' n l) ∧ Hid (Below w.heap.size w w') :=
  clone_any a n cap l w hb hn

end Go.Proofs.Qxb6606359a
