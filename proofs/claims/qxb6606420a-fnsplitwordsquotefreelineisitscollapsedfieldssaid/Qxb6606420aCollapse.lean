/-
  Seat b6606420a: bytes appended to a row of the call's own; the contract of b1Collapse.
-/
import Derived.Test.Qxb6606420aSmall
namespace Go.Proofs.Qxb6606420a
open Go.ChangeShapes Go.WideShapes Go.ChangeAt Go.RowKit
open Plain

theorem byteV_snoc (l m : List UInt8) : byteV l ++ byteV m = byteV (l ++ m) := by simp [byteV]

/-- The slice at block g, of n elements, is the call's own and holds the bytes l. -/
def Own (w : World) (base g n cap : Nat) (l : List UInt8) : Prop := l.length = n ∧ w.ownsRow base 5 1 (.slice (some ⟨g, 0, none⟩) n cap) n (byteV l)

theorem Own.base {w : World} {base g n cap : Nat} {l : List UInt8} (h : Own w base g n cap l) : base ≤ g ∧ g < w.heap.size := h.2.lt g rfl
theorem Own.alloc {w : World} {base g n cap : Nat} {l : List UInt8} (h : Own w base g n cap l) (o : Obj) : Own (w.alloc o) base g n cap l := ⟨h.1, h.2.alloc o⟩
theorem Own.bs {w : World} {base g n cap : Nat} {l : List UInt8} (h : Own w base g n cap l) : Bs w (some ⟨g, 0, none⟩) n l := by
  refine ⟨h.1, fun hn => ⟨g, 0, rfl, h.base.2, fun j hj => ?_⟩⟩
  rw [Nat.zero_add, h.2.cellAt j (by omega)]
  exact byteV_at l j (by rw [h.1]; exact hj)
theorem Own.keep {w w' : World} {base g n cap : Nat} {l : List UInt8} (h : Own w base g n cap l) {B : Nat} (hb : Below B w w') (hg : g < B) : Own w' base g n cap l := by
  refine ⟨h.1, h.2.1, ?_⟩
  rcases h.2.2 with ⟨h', _⟩ | ⟨g', cap', cur, h', hbg, hgg, r⟩
  · cases h'
  · have e : g' = g := by simp at h'; exact h'.1.symm
    exact .inr ⟨g', cap', cur, h', hbg, by rw [hb.block g' (by omega)]; exact hgg, r⟩

/-- What an append of bytes leaves. -/
def Grew (w w' : World) (base g g' n cap' : Nat) (l : List UInt8) : Prop := Own w' base g' n cap' l ∧ w.grownBy w' (some g) ∧ (g' = g ∨ w.heap.size ≤ g')

/-- 'out = append(out, c)' ¦ 'append(out, w...)', out the call's own. -/
theorem wpList_push {w : World} {ops : Array Oper} {rest : List Oper} {o : Oper} {a : Act} {Q : Exit → Act → World → Prop} (hgd : o.guard = none) (s x : Operand)
    (ho : o.op = .call { callee := .builtin .append, args := #[s, x], argTypes := #[22, 22] })
    (base g n cap : Nat) (l : List UInt8) (hs : a.eval s = .slice (some ⟨g, 0, none⟩) n cap) (hown : Own w base g n cap l)
    (ad : Addr) (m c : Nat) (news : List UInt8) (hx : a.eval x = .slice (some ad) m c) (hl : news.length = m) (hnews : ∀ j u, (byteV news)[j]? = some u → w.cell? (ad.add j) = some u)
    (hm : 0 < m) (hbd : n + m ≤ 16777216) (hbase : base ≤ w.heap.size)
    (h : ∀ g' cap' w', Hid (Grew w w' base g g' (n + m) cap' (l ++ news)) → wpList Try.prog ops Q rest (a.put o.dst (.slice (some ⟨g', 0, none⟩) (n + m) cap')) w') : wpList Try.prog ops Q (o :: rest) a w := by
  obtain ⟨i0, hi, hz0, hz1, hz2⟩ := info_parts Try.info5
  refine wpList_append_lies w hgd s x 22 ho base 5 i0 (.int .u8 0) 1 1 Try.underlying22 hi hz0 hz1 hz2 rfl (by decide) _ n (byteV l) hs hown.2 ad m c (byteV news) hx (by rw [byteV_length, hl]; omega) hnews (byteV_one news) hm (by unfold maxLen; omega) (by omega) hbase w.heap.size rfl ?_
  intro g' cap' w' h1 h2 h3 _
  refine h g' cap' w' ⟨⟨by rw [List.length_append, hown.1, hl], by rw [← byteV_snoc]; exact h1⟩, h2, ?_⟩
  rcases h3 with h3 | h3
  · left; simpa [Value.ownBlock] using h3.symm
  · right; omega

/-- The one byte that 'append(out, c)' lays in a block of its own first. -/
theorem news_one (w : World) (c : UInt8) : ∀ j u, (byteV [c])[j]? = some u → (w.alloc (.cells #[.int .u8 (c.toNat : Int)] 5)).cell? ((⟨w.heap.size, 0, none⟩ : Addr).add j) = some u := cell_one_new _ _ _

theorem news_32 (w : World) : ∀ j u, (byteV [32])[j]? = some u → (w.alloc (.cells #[.int .u8 32] 5)).cell? ((⟨w.heap.size, 0, none⟩ : Addr).add j) = some u := news_one w 32

theorem Grew.below {w0 w w' : World} {B base g g' n cap' : Nat} {l : List UInt8} (h : Grew w w' base g g' n cap' l) (hB : Below B w0 w) (hs : B ≤ w.heap.size) (hg : B ≤ g) : Below B w0 w' :=
  hB.grown h.2.1 hs (fun k hk => by cases hk; exact hg)

set_option maxHeartbeats 800000 in
theorem collapse_any (a : Option Addr) (n cap : Nat) (L : List UInt8) (w : World) (hb : Bs w a n L) (hn : n ≤ 1048576) :
    Calls Try.prog 12 #[.slice a n cap] w fun e w' => ∃ g c m, e = .returned (.slice (some ⟨g, 0, none⟩) m c) ∧ Hid (Own w' w.heap.size g m c (col [] false L)) ∧ Hid (Below w.heap.size w w') := by
  obtain ⟨HL, hcells⟩ := hb
  have HL : Hid (L.length = n) := HL
  go_enter Try.func12, Try.ntmps12
  go_wp2
  go_loopw [3, 4, 5] (fun v gp i wr => ∃ (k g c m : Nat) (gap : Bool) (out : List UInt8), k ≤ n ∧ i = .int .i64 k ∧ gp = .bool gap ∧ v = .slice (some ⟨g, 0, none⟩) m c ∧ m ≤ 2 * k ∧ Hid (Own wr w.heap.size g m c out) ∧ Hid (Below w.heap.size w wr) ∧ Hid (col out gap (L.drop k) = col [] false L)) (fun _ _ i _ => n - (intOf i).toNat)
  case atStart => exact ⟨0, w.heap.size, 0, 0, false, [], Nat.zero_le _, rfl, rfl, rfl, by omega, ⟨rfl, World.ownsRow_lit w #[] 0 (Nat.le_refl _) (by unfold maxLen; omega) rfl⟩, (Below.refl _ _).alloc (Nat.le_refl _) _, rfl⟩
  case round =>
    obtain ⟨k, g, c, m, gap, out, hk, rfl, rfl, rfl, hm, HO, HB, HR⟩ := hrel
    by_cases hlt : k < n
    · obtain ⟨b, off, rfl, hbl, hc⟩ := hcells (by omega)
      have hck : wr.cell? ⟨b, off + k, none⟩ = some (.int .u8 ((L.getD k 0).toNat : Int)) := by rw [HB.out.cell (by exact hbl)]; exact hc k hlt
      obtain ⟨d, hd⟩ : ∃ d, d = L.getD k 0 := ⟨_, rfl⟩
      rw [← hd] at hck
      have HD : Hid (d = L.getD k 0) := hd
      have hki : (k : Int) < (n : Int) := by omega
      have hkL : k < L.length := by rw [HL.out]; exact hlt
      have hwsz := HB.out.size
      clear hd hc hcells
      cases hw : ws d
      · have HW : Hid (ws (L.getD k 0) = false) := by rw [← HD.out]; exact hw
        cases gap
        · go_wp2_with (first
            | (go_at_call 10; refine (isWS_any d _).mono ?_; rintro e w' ⟨rfl, rfl⟩; rw [hw])
            | (at_builtin; refine wpList_push rfl (.tmp 27) (.tmp 29) rfl w.heap.size g m c out rfl (HO.out.alloc _) ⟨wr.heap.size, 0, none⟩ 1 1 [d] rfl rfl (news_one _ _) (by decide) (by omega) (by simp; omega) ?_; intro g1 c1 w1 HG1))
          go_roundw
          case rel => exact ⟨k + 1, g1, c1, m + 1, false, out ++ [d], by omega, by go_num, rfl, rfl, by omega, HG1.out.1, HG1.out.below (HB.out.alloc hwsz _) (by simp; omega) HO.out.base.1, (by show _ = _; rw [← HR.out, col_no L out k hkL HW.out, ← HD.out])⟩
          case measure => simp [intOf]; omega
        · go_wp2_with (first
            | (go_at_call 10; refine (isWS_any d _).mono ?_; rintro e w' ⟨rfl, rfl⟩; rw [hw])
            | (at_builtin; refine wpList_push rfl (.tmp 24) (.tmp 25) rfl w.heap.size g m c out rfl (HO.out.alloc _) ⟨wr.heap.size, 0, none⟩ 1 1 [32] rfl rfl (news_32 _) (by decide) (by omega) (by simp; omega) ?_; intro g1 c1 w1 HG1; have hsz1 : w.heap.size ≤ w1.heap.size := Nat.le_trans (by simp; omega) HG1.out.2.1.size)
            | (at_builtin; refine wpList_push rfl (.tmp 27) (.tmp 29) rfl w.heap.size g1 (m + 1) c1 (out ++ [32]) rfl (HG1.out.1.alloc _) ⟨w1.heap.size, 0, none⟩ 1 1 [d] rfl rfl (news_one _ _) (by decide) (by omega) (by simp; omega) ?_; intro g2 c2 w2 HG2))
          go_roundw
          case rel => exact ⟨k + 1, g2, c2, m + 1 + 1, false, out ++ [32] ++ [d], by omega, by go_num, rfl, rfl, by omega, HG2.out.1, HG2.out.below ((HG1.out.below (HB.out.alloc hwsz _) (by simp; omega) HO.out.base.1).alloc hsz1 _) (by simp; omega) HG1.out.1.base.1, (by show _ = _; rw [← HR.out, col_gap L out k hkL HW.out, ← HD.out])⟩
          case measure => simp [intOf]; omega
      · have HW : Hid (ws (L.getD k 0) = true) := by rw [← HD.out]; exact hw
        by_cases hm0 : m = 0
        · have ho : out = [] := List.eq_nil_of_length_eq_zero (by rw [HO.out.1]; exact hm0)
          have HR2 : Hid (col out gap (L.drop (k + 1)) = col [] false L) := by
            show _ = _
            rw [← HR.out, col_ws L out gap k hkL HW.out]
            simp [ho]
          clear ho
          subst hm0
          go_wp2_with (go_at_call 10; refine (isWS_any d _).mono ?_; rintro e w' ⟨rfl, rfl⟩; rw [hw])
          go_roundw
          case rel => exact ⟨k + 1, g, c, 0, gap, out, by omega, by go_num, rfl, rfl, by omega, HO, HB, HR2⟩
          case measure => simp [intOf]; omega
        · have ho : out ≠ [] := fun e => hm0 (by rw [← HO.out.1, e]; rfl)
          have HR2 : Hid (col out true (L.drop (k + 1)) = col [] false L) := by
            show _ = _
            rw [← HR.out, col_ws L out gap k hkL HW.out]
            simp [ho]
          clear ho
          go_wp2_with (go_at_call 10; refine (isWS_any d _).mono ?_; rintro e w' ⟨rfl, rfl⟩; rw [hw])
          go_roundw
          case rel => exact ⟨k + 1, g, c, m, true, out, by omega, by go_num, rfl, rfl, by omega, HO, HB, HR2⟩
          case measure => simp [intOf]; omega
    · go_wp2
      go_ret
      exact ⟨g, c, m, rfl, by have := HR.out; rw [col_done L out gap k (by rw [HL.out]; omega)] at this; rw [← this]; exact HO, HB⟩

end Go.Proofs.Qxb6606420a
