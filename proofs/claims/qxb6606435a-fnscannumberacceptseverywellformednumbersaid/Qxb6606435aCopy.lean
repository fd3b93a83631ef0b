/-
  Seat b6606435a: copy into a new row.
-/
import Derived.Test.Qxb6606435aScanWalk
namespace Go.Proofs.Qxb6606435a
open Go.ChangeShapes Go.WideShapes Go.ChangeAt Go.RowKit
open Plain

theorem Try.info5 : (Try.prog.info? 5).map (fun i => (i.zero, i.size, i.bytes)) = some (some (.int .u8 0), 1, 1) := by kernel_rfl
theorem Try.size5 : (Try.prog.info? 5).map (·.size) = some 1 := by kernel_rfl

/-- The cells of a row of bytes. -/
def byteV (l : List UInt8) : List Value := l.map (fun c => Value.int .u8 (c.toNat : Int))
theorem byteV_length (l : List UInt8) : (byteV l).length = l.length := by simp [byteV]
theorem byteV_at (l : List UInt8) (j : Nat) (hj : j < l.length) : (byteV l)[j]? = some (.int .u8 ((l.getD j 0).toNat : Int)) := by
  unfold byteV
  rw [List.getElem?_map, List.getD_eq_getElem?_getD, List.getElem?_eq_getElem hj]; rfl
theorem byteV_one (l : List UInt8) : ∀ u ∈ byteV l, u.oneCell' = true := by
  intro u hu
  obtain ⟨c, _, rfl⟩ := List.mem_map.1 hu
  rfl

/-- 'copy(c, b)', c just made, b whatever. -/
theorem copy_run {w0 w1 : World} {B g n cap : Nat} {a : Option Addr} {l : List UInt8} {xs : List Value} (hb : Bs w1 a n l) (hown : w1.ownsRow B 5 1 (.slice (some ⟨g, 0, none⟩) n n) n xs) (hB : Below B w0 w1) :
    ∃ w2, (∀ ty, (Builtin.copy_ #[22, 22] ty #[.slice (some ⟨g, 0, none⟩) n n, .slice a n cap]).run Try.prog w1 = .ok (goInt n) w2) ∧ Hid (Bs w2 (some ⟨g, 0, none⟩) n l) ∧ Hid (Below B w0 w2) := by
  by_cases hn : n = 0
  · subst hn
    refine ⟨w1, fun ty => run_copy_none w1 22 22 ty 5 _ _ 0 0 0 cap Try.underlying22 Try.size5 (by simp), ⟨hb.1, fun h => absurd h (by omega)⟩, hB⟩
  · obtain ⟨b, off, rfl, hlt, hc⟩ := hb.2 (by omega)
    rcases hown.2 with ⟨h', _⟩ | ⟨g', cap', cur, h', hbg, hg, _, _, hcs, _⟩
    · simp at h'
    · simp only [Value.slice.injEq, Option.some.injEq, Addr.mk.injEq, and_true, true_and] at h'
      obtain ⟨rfl, rfl⟩ := h'
      have hlen : (byteV l).length = n := by rw [byteV_length, hb.1]
      have hrun := fun ty => run_copy_row (P := Try.prog) w1 22 22 ty 5 g 0 n n ⟨b, off, none⟩ n cap cur 5 (byteV l) Try.underlying22 Try.size5 hg (by rw [hlen]; simp)
        (fun j v hj => by
          have hjl : j < l.length := by have := (List.getElem?_eq_some_iff.1 hj).1; rwa [byteV_length] at this
          rw [byteV_at l j hjl] at hj
          rw [add_plain, hc j (by rw [hb.1] at hjl; exact hjl)]; exact hj) (by rw [hlen]; omega) (byteV_one l)
      rw [hlen] at hrun
      refine ⟨_, hrun, ⟨hb.1, fun _ => ⟨g, 0, rfl, ?_, fun j hj => ?_⟩⟩, below_setRow hB hbg _⟩
      · have := (hown.lt g rfl).2
        simpa [World.setRow] using this
      · have hh := setRow_heap w1 g cur (cur.toList.take 0 ++ byteV l ++ cur.toList.drop (0 + n)).toArray 5 (0, 0) hg
        rw [cell_of_row _ g (0 + j) _ 5 (0, 0) hh]
        have : j < (byteV l).length := by rw [hlen]; exact hj
        simp only [List.take_zero, List.nil_append, List.getElem?_toArray]
        rw [show 0 + j = j from Nat.zero_add j, List.getElem?_append_left this]
        exact byteV_at l j (by rw [hb.1]; exact hj)

end Go.Proofs.Qxb6606435a
