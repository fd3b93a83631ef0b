/-
  Seat b6606435a: bytes appended to a row of the call's own.
-/
import Derived.Test.Qxb6606435aCopy
import Derived.Test.Qxb6606435aText
import Derived.Laws.AppendOwnNone
namespace Go.Proofs.Qxb6606435a
open Go.ChangeShapes Go.WideShapes Go.ChangeAt Go.RowKit
open Plain

theorem byteV_snoc (l m : List UInt8) : byteV l ++ byteV m = byteV (l ++ m) := by simp [byteV]

/-- The slice at block g, of n elements, is the call's own and holds the bytes l. -/
def Own (w : World) (base g n cap : Nat) (l : List UInt8) : Prop := l.length = n ∧ w.ownsRow base 5 1 (.slice (some ⟨g, 0, none⟩) n cap) n (byteV l)

theorem Own.base {w : World} {base g n cap : Nat} {l : List UInt8} (h : Own w base g n cap l) : base ≤ g ∧ g < w.heap.size := h.2.lt g rfl
theorem Own.alloc {w : World} {base g n cap : Nat} {l : List UInt8} (h : Own w base g n cap l) (o : Obj) : Own (w.alloc o) base g n cap l := ⟨h.1, h.2.alloc o⟩
theorem Own.bs {w : World} {base g n cap : Nat} {l : List UInt8} (h : Own w base g n cap l) : Bs w (some ⟨g, 0, none⟩) n l := by
  refine ⟨h.1, fun hn => ⟨g, 0, rfl, h.base.2, fun j hj => ?_⟩⟩
  rw [Nat.zero_add, h.2.cellAt j (by omega)]
  exact byteV_at l j (by rw [h.1]; exact hj)
theorem Own.keep {w w' : World} {base g n cap : Nat} {l : List UInt8} (h : Own w base g n cap l) {B : Nat} (hb : Below B w w') (hg : g < B) : Own w' base g n cap l := by
  refine ⟨h.1, h.2.1, ?_⟩
  rcases h.2.2 with ⟨h', _⟩ | ⟨g', cap', cur, h', hbg, hgg, r⟩
  · cases h'
  · have e : g' = g := by simp at h'; exact h'.1.symm
    exact .inr ⟨g', cap', cur, h', hbg, by rw [hb.block g' (by omega)]; exact hgg, r⟩

/-- What an append of bytes leaves. -/
def Grew (w w' : World) (base g g' n cap' : Nat) (l : List UInt8) : Prop := Own w' base g' n cap' l ∧ w.grownBy w' (some g)

/-- 'out = append(out, c)' ¦ 'append(out, w...)', out the call's own. -/
theorem wpList_push {w : World} {ops : Array Oper} {rest : List Oper} {o : Oper} {a : Act} {Q : Exit → Act → World → Prop} (hgd : o.guard = none) (s x : Operand)
    (ho : o.op = .call { callee := .builtin .append, args := #[s, x], argTypes := #[22, 22] })
    (base g n cap : Nat) (l : List UInt8) (hs : a.eval s = .slice (some ⟨g, 0, none⟩) n cap) (hown : Own w base g n cap l)
    (ad : Addr) (m c : Nat) (news : List UInt8) (hx : a.eval x = .slice (some ad) m c) (hl : news.length = m) (hnews : ∀ j u, (byteV news)[j]? = some u → w.cell? (ad.add j) = some u)
    (hm : 0 < m) (hbd : n + m ≤ 16777216) (hbase : base ≤ w.heap.size)
    (h : ∀ g' cap' w', Hid (Grew w w' base g g' (n + m) cap' (l ++ news)) → wpList Try.prog ops Q rest (a.put o.dst (.slice (some ⟨g', 0, none⟩) (n + m) cap')) w') : wpList Try.prog ops Q (o :: rest) a w := by
  obtain ⟨i0, hi, hz0, hz1, hz2⟩ := info_parts Try.info5
  refine wpList_append_lies w hgd s x 22 ho base 5 i0 (.int .u8 0) 1 1 Try.underlying22 hi hz0 hz1 hz2 rfl (by decide) _ n (byteV l) hs hown.2 ad m c (byteV news) hx (by rw [byteV_length, hl]; omega) hnews (byteV_one news) hm (by unfold maxLen; omega) (by omega) hbase w.heap.size rfl ?_
  intro g' cap' w' h1 h2 _ _
  exact h g' cap' w' ⟨⟨by rw [List.length_append, hown.1, hl], by rw [← byteV_snoc]; exact h1⟩, h2⟩

/-- The one byte that 'append(out, c)' lays in a block of its own first. -/
theorem news_one (w : World) (c : UInt8) : ∀ j u, (byteV [c])[j]? = some u → (w.alloc (.cells #[.int .u8 (c.toNat : Int)] 5)).cell? ((⟨w.heap.size, 0, none⟩ : Addr).add j) = some u := cell_one_new _ _ _

theorem Grew.below {w0 w w' : World} {B base g g' n cap' : Nat} {l : List UInt8} (h : Grew w w' base g g' n cap' l) (hB : Below B w0 w) (hs : B ≤ w.heap.size) (hg : B ≤ g) : Below B w0 w' :=
  hB.grown h.2 hs (fun k hk => by cases hk; exact hg)

/-- The one byte, told as a number. -/
theorem news_int (w : World) (z : Int) (c : UInt8) (hz : z = (c.toNat : Int)) : ∀ j u, (byteV [c])[j]? = some u → (w.alloc (.cells #[.int .u8 z] 5)).cell? ((⟨w.heap.size, 0, none⟩ : Addr).add j) = some u := by
  rw [hz]; exact news_one w c

/-- 'append(out, xs...)', xs whatever: nil, empty or not. -/
theorem wpList_pushs {w : World} {ops : Array Oper} {rest : List Oper} {o : Oper} {a : Act} {Q : Exit → Act → World → Prop} (hgd : o.guard = none) (s x : Operand)
    (ho : o.op = .call { callee := .builtin .append, args := #[s, x], argTypes := #[22, 22] })
    (base g n cap : Nat) (l : List UInt8) (hs : a.eval s = .slice (some ⟨g, 0, none⟩) n cap) (hown : Own w base g n cap l)
    (ax : Option Addr) (m c : Nat) (news : List UInt8) (hx : a.eval x = .slice ax m c) (hb : Bs w ax m news) (hnil : ax = none → c = 0)
    (hbd : n + m ≤ 16777216) (hbase : base ≤ w.heap.size)
    (h : ∀ g' cap' w', Hid (Grew w w' base g g' (n + m) cap' (l ++ news)) → wpList Try.prog ops Q rest (a.put o.dst (.slice (some ⟨g', 0, none⟩) (n + m) cap')) w') : wpList Try.prog ops Q (o :: rest) a w := by
  obtain ⟨i0, hi, hz0, hz1, hz2⟩ := info_parts Try.info5
  by_cases hm : 0 < m
  · obtain ⟨b, off, rfl, _, hc⟩ := hb.2 hm
    refine wpList_push hgd s x ho base g n cap l hs hown ⟨b, off, none⟩ m c news hx hb.1 (fun j u hj => ?_) hm hbd hbase h
    have hjl : j < news.length := by have := (List.getElem?_eq_some_iff.1 hj).1; rwa [byteV_length] at this
    rw [byteV_at news j hjl] at hj
    rw [add_plain, hc j (by rw [← hb.1]; exact hjl)]; exact hj
  · have hm0 : m = 0 := by omega
    subst hm0
    have hn0 : news = [] := List.eq_nil_of_length_eq_zero hb.1
    subst hn0
    cases ax with
    | none =>
      have hc0 := hnil rfl
      subst hc0
      refine wpList_append_own_none hgd s x 22 ho base 5 i0 1 Try.underlying22 hi _ n (byteV l) hs hown.2 hx ?_
      exact h g cap w ⟨by simpa using hown, World.grownBy.refl _ _⟩
    | some ad =>
      refine wpList_append_own w hgd s x 22 ho base 5 i0 (.int .u8 0) 1 1 Try.underlying22 hi hz0 hz1 hz2 rfl (by decide) _ n (byteV l) hs hown.2 ad 0 c (byteV []) hx rfl (fun j u hj => by simp [byteV] at hj) (byteV_one []) (by unfold maxLen; omega) (by omega) hbase ?_
      intro v' w' h1 h2 h3
      rcases h1.2 with ⟨hv, _⟩ | ⟨g', cap', cur, hv, hbg, hgg, r⟩
      · exact absurd (h3.1 hv).1 (by simp)
      · subst hv
        have hown' : Own w' base g' n cap' (l ++ []) := ⟨by simpa using hown.1, by rw [← byteV_snoc]; exact h1⟩
        exact h g' cap' w' ⟨hown', h2⟩

end Go.Proofs.Qxb6606435a
