/-
  The plain laws of seat b6606359a: bytes, no Go in sight.
-/
namespace Go.Proofs.Qxb6606359a.Plain

/-- A byte, ASCII letters made small. -/
def lowB (c : UInt8) : UInt8 := if 65 ≤ c ∧ c ≤ 90 then c + 32 else c
/-- A byte, ASCII letters made great. -/
def upB (c : UInt8) : UInt8 := if 97 ≤ c ∧ c ≤ 122 then c - 32 else c
/-- Equal but for the case of ASCII letters. -/
def foldB (x y : List UInt8) : Bool := decide (x.map lowB = y.map lowB)

theorem all_bytes (p : UInt8 → Prop) (h : ∀ n : Fin 256, p (UInt8.ofNat n.val)) (c : UInt8) : p c := by
  have := h ⟨c.toNat, c.toNat_lt⟩
  simpa using this

theorem lowB_upB (c : UInt8) : lowB (upB c) = lowB c :=
  all_bytes (fun c => lowB (upB c) = lowB c) (by decide +kernel) c
theorem lowB_lowB (c : UInt8) : lowB (lowB c) = lowB c :=
  all_bytes (fun c => lowB (lowB c) = lowB c) (by decide +kernel) c

theorem foldB_refl (x : List UInt8) : foldB x x = true := by simp [foldB]
theorem foldB_symm (x y : List UInt8) : foldB x y = foldB y x := by
  unfold foldB; rw [decide_eq_decide]; exact ⟨Eq.symm, Eq.symm⟩
theorem foldB_trans (x y z : List UInt8) (h : foldB x z = true) (k : foldB y z = true) : foldB x y = true := by
  simp only [foldB, decide_eq_true_eq] at *; rw [h, k]

theorem map_low_up (x : List UInt8) : (x.map upB).map lowB = x.map lowB := by
  rw [List.map_map]; exact List.map_congr_left fun c _ => lowB_upB c
theorem map_low_low (x : List UInt8) : (x.map lowB).map lowB = x.map lowB := by
  rw [List.map_map]; exact List.map_congr_left fun c _ => lowB_lowB c

theorem foldB_up (x y : List UInt8) : foldB (x.map upB) y = foldB x y := by unfold foldB; rw [map_low_up]
theorem foldB_low (x y : List UInt8) : foldB x (y.map lowB) = foldB x y := by unfold foldB; rw [map_low_low]
theorem foldB_up_self (x : List UInt8) : foldB (x.map upB) x = true := by rw [foldB_up]; exact foldB_refl x

theorem foldB_len {x y : List UInt8} (h : x.length ≠ y.length) : foldB x y = false := by
  unfold foldB
  rw [decide_eq_false_iff_not]
  intro e
  have := congrArg List.length e
  simp at this
  exact h this

theorem foldB_yes {x y : List UInt8} (hl : x.length = y.length) (h : ∀ j, j < x.length → lowB (x.getD j 0) = lowB (y.getD j 0)) : foldB x y = true := by
  unfold foldB
  rw [decide_eq_true_eq]
  apply List.ext_getElem
  · simpa using hl
  · intro j h1 h2
    simp at h1 h2
    have := h j h1
    rw [List.getD_eq_getElem?_getD, List.getD_eq_getElem?_getD, List.getElem?_eq_getElem h1, List.getElem?_eq_getElem h2] at this
    simpa using this

theorem foldB_no {x y : List UInt8} (j : Nat) (hx : j < x.length) (hy : j < y.length) (h : lowB (x.getD j 0) ≠ lowB (y.getD j 0)) : foldB x y = false := by
  unfold foldB
  rw [decide_eq_false_iff_not]
  intro e
  apply h
  rw [List.getD_eq_getElem?_getD, List.getD_eq_getElem?_getD, List.getElem?_eq_getElem hx, List.getElem?_eq_getElem hy]
  have h1 : (x.map lowB)[j]'(by simpa using hx) = (y.map lowB)[j]'(by simpa using hy) := by simp only [e]
  simpa using h1

end Go.Proofs.Qxb6606359a.Plain
