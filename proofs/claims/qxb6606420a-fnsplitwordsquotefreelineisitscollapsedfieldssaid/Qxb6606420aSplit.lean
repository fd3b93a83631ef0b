/-
  Seat b6606420a: the contract of splitWords on a line without quotes.
-/
import Derived.Test.Qxb6606420aCollapse
namespace Go.Proofs.Qxb6606420a
open Go.ChangeShapes Go.WideShapes Go.ChangeAt Go.RowKit
open Plain

theorem Try.info22 : (Try.prog.info? 22).map (fun i => (i.zero, i.size, i.bytes)) = some (some (.slice none 0 0), 1, 24) := by kernel_rfl

/-- The slices 'xs' are the call's own and hold the words 'W'. -/
def Words (w : World) (base : Nat) (xs : List Value) (W : List (List UInt8)) : Prop :=
  xs.length = W.length ∧ ∀ j, j < W.length → ∃ g c, xs[j]? = some (.slice (some ⟨g, 0, none⟩) (W.getD j []).length c) ∧ Own w base g (W.getD j []).length c (W.getD j [])

theorem Own.kept {w w' : World} {base g n cap : Nat} {l : List UInt8} {row : Option Nat} (h : Own w base g n cap l) (hg : w.grownBy w' row) (hne : some g ≠ row) : Own w' base g n cap l :=
  ⟨h.1, h.2.kept hg (.inr hne)⟩

/-- A row of slices is no row of bytes. -/
theorem Own.apart {w : World} {base base' g n n' cap : Nat} {l : List UInt8} {v : Value} {xs : List Value} (h : Own w base g n cap l) (hv : w.ownsRow base' 22 1 v n' xs) : some g ≠ v.ownBlock := by
  intro e
  rcases hv.2 with ⟨rfl, _⟩ | ⟨g', cap', cur, rfl, _, hh, _⟩
  · simp [Value.ownBlock] at e
  · simp [Value.ownBlock] at e
    subst e
    rcases h.2.2 with ⟨h', _⟩ | ⟨g2, cap2, cur2, h', _, hh2, _⟩
    · cases h'
    · have e2 : g2 = g := by simp at h'; exact h'.1.symm
      subst e2
      rw [hh] at hh2
      simp at hh2

theorem Words.kept {w w' : World} {base n : Nat} {xs ys : List Value} {W : List (List UInt8)} {v : Value} (h : Words w base xs W) (hv : w.ownsRow base 22 1 v n ys) (hg : w.grownBy w' v.ownBlock) : Words w' base xs W := by
  refine ⟨h.1, fun j hj => ?_⟩
  obtain ⟨g, c, h1, h2⟩ := h.2 j hj
  exact ⟨g, c, h1, h2.kept hg (h2.apart hv)⟩
theorem Words.below {w w' : World} {base B : Nat} {xs : List Value} {W : List (List UInt8)} (h : Words w base xs W) (hb : Below B w w') (hB : w.heap.size ≤ B) : Words w' base xs W := by
  refine ⟨h.1, fun j hj => ?_⟩
  obtain ⟨g, c, h1, h2⟩ := h.2 j hj
  exact ⟨g, c, h1, h2.keep hb (Nat.lt_of_lt_of_le h2.base.2 hB)⟩
theorem Words.snoc {w : World} {base g m c : Nat} {xs : List Value} {W : List (List UInt8)} {u : List UInt8} (h : Words w base xs W) (hu : Own w base g m c u) : Words w base (xs ++ [.slice (some ⟨g, 0, none⟩) m c]) (W ++ [u]) := by
  refine ⟨by simp [h.1], fun j hj => ?_⟩
  by_cases hjl : j < W.length
  · obtain ⟨g', c', h1, h2⟩ := h.2 j hjl
    have e : (W ++ [u]).getD j [] = W.getD j [] := by rw [List.getD_eq_getElem?_getD, List.getD_eq_getElem?_getD, List.getElem?_append_left hjl]
    rw [e]
    exact ⟨g', c', by rw [List.getElem?_append_left (by rw [h.1]; exact hjl)]; exact h1, h2⟩
  · have hjw : j = W.length := by simp at hj; omega
    subst hjw
    have e : (W ++ [u]).getD W.length [] = u := by rw [List.getD_eq_getElem?_getD, List.getElem?_append_right (Nat.le_refl _)]; simp
    rw [e]
    have hm := hu.1
    subst hm
    exact ⟨g, c, by rw [List.getElem?_append_right (by rw [h.1]; exact Nat.le_refl _), h.1]; simp, hu⟩
theorem Own.weaken {w : World} {base base' g n cap : Nat} {l : List UInt8} (h : Own w base g n cap l) (hb : base' ≤ base) : Own w base' g n cap l := by
  refine ⟨h.1, h.2.1, ?_⟩
  rcases h.2.2 with h' | ⟨g', cap', cur, h', hbg, r⟩
  · exact .inl h'
  · exact .inr ⟨g', cap', cur, h', by omega, r⟩

theorem owns_below {w w' : World} {base e size n B : Nat} {v : Value} {xs : List Value} (h : w.ownsRow base e size v n xs) (hb : Below B w w') (hB : w.heap.size ≤ B) : w'.ownsRow base e size v n xs := by
  refine ⟨h.1, ?_⟩
  rcases h.2 with h' | ⟨g', cap', cur, h', hbg, hgg, r⟩
  · exact .inl h'
  · exact .inr ⟨g', cap', cur, h', hbg, by rw [hb.block g' (Nat.lt_of_lt_of_le (Array.getElem?_eq_some_iff.1 hgg).1 hB)]; exact hgg, r⟩

/-- What 'words = append(words, word)' leaves. -/
def Added (w w' : World) (base n : Nat) (v : Value) (g cap : Nat) (xs : List Value) (u : Value) : Prop :=
  w'.ownsRow base 22 1 (.slice (some ⟨g, 0, none⟩) (n + 1) cap) (n + 1) (xs ++ [u]) ∧ w.grownBy w' v.ownBlock

theorem wpList_word {w : World} {ops : Array Oper} {rest : List Oper} {o : Oper} {a : Act} {Q : Exit → Act → World → Prop} (hgd : o.guard = none) (s x : Operand)
    (ho : o.op = .call { callee := .builtin .append, args := #[s, x], argTypes := #[26, 26] })
    (base n : Nat) (v : Value) (xs : List Value) (hs : a.eval s = v) (hown : w.ownsRow base 22 1 v n xs)
    (ad : Addr) (c : Nat) (g m cp : Nat) (hx : a.eval x = .slice (some ad) 1 c) (hnews : ∀ j u, [Value.slice (some ⟨g, 0, none⟩) m cp][j]? = some u → w.cell? (ad.add j) = some u)
    (hbd : n ≤ 16777216) (hbase : base ≤ w.heap.size)
    (h : ∀ g' cap' w', Hid (Added w w' base n v g' cap' xs (.slice (some ⟨g, 0, none⟩) m cp)) → wpList Try.prog ops Q rest (a.put o.dst (.slice (some ⟨g', 0, none⟩) (n + 1) cap')) w') : wpList Try.prog ops Q (o :: rest) a w := by
  obtain ⟨i0, hi, hz0, hz1, hz2⟩ := info_parts Try.info22
  refine wpList_append_lies w hgd s x 26 ho base 22 i0 (.slice none 0 0) 1 24 Try.underlying26 hi hz0 hz1 hz2 rfl (by decide) v n xs hs hown ad 1 c [.slice (some ⟨g, 0, none⟩) m cp] hx rfl hnews (fun u hu => by simp at hu; subst hu; rfl) (by decide) (by unfold maxLen; omega) (by omega) hbase w.heap.size rfl ?_
  intro g' cap' w' h1 h2 _ _
  exact h g' cap' w' ⟨h1, h2⟩

theorem added_ok {w wr w1 : World} {B g m c g1 c1 : Nat} {v : Value} {xs : List Value} {acc : List (List UInt8)} {wd : List UInt8} {o : Obj}
    (hO : wr.ownsRow B 22 1 v acc.length xs) (hW : Words wr B xs acc) (hu : Own wr B g m c wd) (hB : Below B w wr) (hs : B ≤ wr.heap.size)
    (hA : Added (wr.alloc o) w1 B acc.length v g1 c1 xs (.slice (some ⟨g, 0, none⟩) m c)) :
    w1.ownsRow B 22 1 (.slice (some ⟨g1, 0, none⟩) (acc.length + 1) c1) (acc ++ [wd]).length (xs ++ [.slice (some ⟨g, 0, none⟩) m c]) ∧ Words w1 B (xs ++ [.slice (some ⟨g, 0, none⟩) m c]) (acc ++ [wd]) ∧ Below B w w1 := by
  have hO' := hO.alloc o
  have hW' : Words (wr.alloc o) B xs acc := hW.below (B := wr.heap.size) ((Below.refl _ _).alloc (Nat.le_refl _) _) (Nat.le_refl _)
  have hu' := hu.alloc o
  refine ⟨by rw [List.length_append]; exact hA.1, (hW'.kept hO' hA.2).snoc (hu'.kept hA.2 (hu'.apart hO')), (hB.alloc hs o).grown hA.2 (by simp; omega) (fun k hk => (hO'.lt k hk).1)⟩

theorem qt_no {c : UInt8} (h : qt c = false) : (((c.toNat : Int) != 34) = true) ∧ (((c.toNat : Int) != 39) = true) := by
  rw [qt_int] at h
  have := of_decide_eq_false h
  constructor
  · simp; omega
  · simp; omega

/-- What the splitter leaves. -/
def Split (w w' : World) (v : Value) (W : List (List UInt8)) : Prop := ∃ xs, w'.ownsRow w.heap.size 22 1 v W.length xs ∧ Words w' w.heap.size xs W ∧ Below w.heap.size w w'

set_option maxRecDepth 100000 in
set_option maxHeartbeats 1600000 in
theorem split_any (a : Option Addr) (n cap : Nat) (L : List UInt8) (w : World) (hb : Bs w a n L) (hn : n ≤ 1048576) (HQ : Hid (∀ k, k < n → qt (L.getD k 0) = false)) :
    Calls Try.prog 15 #[.slice a n cap] w fun e w' => ∃ v, e = .returned (.tuple #[v, .bool true]) ∧ Hid (Split w w' v (spl [] L)) := by
  obtain ⟨HL, hcells⟩ := hb
  have HL' : Hid (L.length = n) := HL
  clear HL
  have HL := HL'
  clear HL'
  have HC : Hid (0 < n → ∃ b off, a = some ⟨b, off, none⟩ ∧ b < w.heap.size ∧ ∀ j, j < n → w.cell? ⟨b, off + j, none⟩ = some (.int .u8 ((L.getD j 0).toNat : Int))) := hcells
  clear hcells
  go_enter Try.func15, Try.ntmps15
  go_wp2
  go_loopw [4, 5] (fun v i wr => ∃ (k : Nat) (acc : List (List UInt8)) (xs : List Value), k ≤ n ∧ i = .int .i64 k ∧ acc.length ≤ k ∧ Hid (wr.ownsRow w.heap.size 22 1 v acc.length xs) ∧ Hid (Words wr w.heap.size xs acc) ∧ Hid (Below w.heap.size w wr) ∧ Hid (acc ++ spl [] (L.drop k) = spl [] L)) (fun _ i _ => n - (intOf i).toNat)
  case atStart => exact ⟨0, [], [], Nat.zero_le _, rfl, by simp, World.ownsRow_nil _ _ _ _, ⟨rfl, fun j hj => absurd hj (by simp)⟩, Below.refl _ _, rfl⟩
  case round =>
    obtain ⟨k, acc, xs, hk, rfl, hacc, HO, HW, HB, HR⟩ := hrel
    go_wp2
    go_loop [5] (fun i => ∃ k1 : Nat, k ≤ k1 ∧ k1 ≤ n ∧ i = .int .i64 k1 ∧ Hid (acc ++ spl [] (L.drop k1) = spl [] L)) (fun i => n - (intOf i).toNat)
    case atStart => exact ⟨k, Nat.le_refl _, hk, rfl, HR⟩
    case round =>
      obtain ⟨k1, hkk, hk1, rfl, HR1⟩ := hrel
      clear HR
      by_cases hlt : k1 < n
      · obtain ⟨b, off, rfl, hbl, hc⟩ := HC.out (by omega)
        have hck : wr.cell? ⟨b, off + k1, none⟩ = some (.int .u8 ((L.getD k1 0).toNat : Int)) := by rw [HB.out.cell (by exact hbl)]; exact hc k1 hlt
        obtain ⟨d, hd⟩ : ∃ d, d = L.getD k1 0 := ⟨_, rfl⟩
        rw [← hd] at hck
        have HD : Hid (d = L.getD k1 0) := hd
        have hki : (k1 : Int) < (n : Int) := by omega
        have hkL : k1 < L.length := by rw [HL.out]; exact hlt
        clear hd hc
        cases hw : ws d
        · have HWS : Hid (ws (L.getD k1 0) = false) := by rw [← HD.out]; exact hw
          have hne : ((k1 : Int) == (n : Int)) = false := by simp; omega
          have hwsz := HB.out.size
          go_wp2_with (go_at_call 16; refine (isSpace_any d _).mono ?_; rintro e w' ⟨rfl, rfl⟩; rw [hw])
          clear hck
          obtain ⟨wo, rfl⟩ : ∃ wo : World, wo = wr := ⟨_, rfl⟩
          go_loopw [5, 6] (fun i v wr => ∃ (k2 g c m : Nat) (wd : List UInt8), k2 ≤ n ∧ i = .int .i64 k2 ∧ v = .slice (some ⟨g, 0, none⟩) m c ∧ k1 + m ≤ k2 ∧ Hid (Own wr wo.heap.size g m c wd) ∧ Hid (Below wo.heap.size wo wr) ∧ Hid (acc ++ spl wd (L.drop k2) = spl [] L) ∧ Hid (wd ≠ [] ∨ (k2 < n ∧ ws (L.getD k2 0) = false))) (fun i _ _ => n - (intOf i).toNat)
          case atStart => exact ⟨k1, wo.heap.size, 0, 0, [], hk1, rfl, rfl, by omega, ⟨rfl, World.ownsRow_lit wo #[] 0 (Nat.le_refl _) (by unfold maxLen; omega) rfl⟩, (Below.refl _ _).alloc (Nat.le_refl _) _, HR1, .inr ⟨hlt, HWS.out⟩⟩
          case round =>
            obtain ⟨k2, g, c, m, wd, hk2, rfl, rfl, hkm, HO2, HB2, HR2, HN⟩ := hrel
            have hwsz2 := HB2.out.size
            clear hne hki
            by_cases hin : k2 < n ∧ ws (L.getD k2 0) = false
            · obtain ⟨hlt2, hws2⟩ := hin
              have hck2 : wr.cell? ⟨b, off + k2, none⟩ = some (.int .u8 ((L.getD k2 0).toNat : Int)) := by
                rw [HB2.out.cell (by exact Nat.lt_of_lt_of_le hbl hwsz), HB.out.cell (by exact hbl)]
                obtain ⟨b', off', e', _, hc'⟩ := HC.out (by omega)
                cases e'
                exact hc' k2 hlt2
              obtain ⟨q1, q2⟩ := qt_no (HQ.out k2 hlt2)
              obtain ⟨d2, hd2⟩ : ∃ d2, d2 = L.getD k2 0 := ⟨_, rfl⟩
              have HR3 : Hid (acc ++ spl (wd ++ [d2]) (L.drop (k2 + 1)) = spl [] L) := by
                show _ = _
                rw [← HR2.out, spl_take L wd k2 (by rw [HL.out]; exact hlt2) hws2, hd2]
              rw [← hd2] at hck2 q1 q2 hws2
              clear hd2
              have hki2 : (k2 : Int) < (n : Int) := by omega
              go_wp2_with (first
                | (go_at_call 16; refine (isSpace_any d2 _).mono ?_; rintro e w' ⟨rfl, rfl⟩; rw [hws2])
                | (at_builtin; refine wpList_push rfl (.tmp 50) (.tmp 52) rfl wo.heap.size g m c wd rfl (HO2.out.alloc _) ⟨wr.heap.size, 0, none⟩ 1 1 [d2] rfl rfl (news_one _ _) (by decide) (by omega) (by simp; omega) ?_; intro g1 c1 w1 HG1))
              go_roundw
              case rel => exact ⟨k2 + 1, g1, c1, m + 1, wd ++ [d2], by omega, by go_num, rfl, by omega, HG1.out.1, HG1.out.below (HB2.out.alloc hwsz2 _) (by simp; omega) HO2.out.base.1, HR3, .inl (by simp)⟩
              case measure => simp [intOf]; omega
            · have hwd : wd ≠ [] := by
                rcases HN.out with h | h
                · exact h
                · exact absurd h hin
              have hm0 : 0 < m := by
                rw [← HO2.out.1]
                exact List.length_pos_iff.2 hwd
              have HE : Hid (L.length ≤ k2 ∨ ws (L.getD k2 0) = true) := by
                by_cases h : k2 < n
                · right
                  cases hx : ws (L.getD k2 0)
                  · exact absurd ⟨h, hx⟩ hin
                  · rfl
                · left; rw [HL.out]; omega
              have HR3 : Hid ((acc ++ [wd]) ++ spl [] (L.drop k2) = spl [] L) := by
                show _ = _
                rw [← HR2.out, spl_end L wd k2 hwd HE.out, List.append_assoc]; rfl
              have HOv : Hid (wr.ownsRow w.heap.size 22 1 u4 acc.length xs) := owns_below HO.out HB2.out (Nat.le_refl _)
              have HWv : Hid (Words wr w.heap.size xs acc) := HW.out.below HB2.out (Nat.le_refl _)
              have HBv : Hid (Below w.heap.size w wr) := HB.out.trans (HB2.out.mono hwsz)
              have HOw : Hid (Own wr w.heap.size g m c wd) := HO2.out.weaken hwsz
              clear hwd HN HB2 HO2 HR2
              by_cases hlt2 : k2 < n
              · have hws2 : ws (L.getD k2 0) = true := by
                  cases hx : ws (L.getD k2 0)
                  · exact absurd ⟨hlt2, hx⟩ hin
                  · rfl
                have hck2 : wr.cell? ⟨b, off + k2, none⟩ = some (.int .u8 ((L.getD k2 0).toNat : Int)) := by
                  rw [HBv.out.cell (by exact hbl)]
                  obtain ⟨b', off', e', _, hc'⟩ := HC.out (by omega)
                  cases e'
                  exact hc' k2 hlt2
                obtain ⟨d2, hd2⟩ : ∃ d2, d2 = L.getD k2 0 := ⟨_, rfl⟩
                rw [← hd2] at hck2 hws2
                clear hd2 hin
                have hki2 : (k2 : Int) < (n : Int) := by omega
                go_wp2_with (first
                  | (go_at_call 16; refine (isSpace_any d2 _).mono ?_; rintro e w' ⟨rfl, rfl⟩; rw [hws2])
                  | (at_builtin; refine wpList_word rfl (.tmp 78) (.tmp 80) rfl w.heap.size acc.length u4 xs rfl (HOv.out.alloc _) ⟨wr.heap.size, 0, none⟩ 1 g m c rfl (cell_one_new _ _ _) (by omega) (by simp; omega) ?_; intro g1 c1 w1 HA1))
                obtain ⟨r1, r2, r3⟩ := added_ok HOv.out HWv.out HOw.out HBv.out (by omega) HA1.out
                go_roundw
                case rel => exact ⟨k2, acc ++ [wd], _, hk2, rfl, by simp; omega, r1, r2, r3, HR3⟩
                case measure => simp [intOf]; omega
              · clear hin
                go_wp2_with (at_builtin; refine wpList_word rfl (.tmp 78) (.tmp 80) rfl w.heap.size acc.length u4 xs rfl (HOv.out.alloc _) ⟨wr.heap.size, 0, none⟩ 1 g m c rfl (cell_one_new _ _ _) (by omega) (by simp; omega) ?_; intro g1 c1 w1 HA1)
                obtain ⟨r1, r2, r3⟩ := added_ok HOv.out HWv.out HOw.out HBv.out (by omega) HA1.out
                go_roundw
                case rel => exact ⟨k2, acc ++ [wd], _, hk2, rfl, by simp; omega, r1, r2, r3, HR3⟩
                case measure => simp [intOf]; omega
        · have HWS : Hid (ws (L.getD k1 0) = true) := by rw [← HD.out]; exact hw
          go_wp2_with (go_at_call 16; refine (isSpace_any d _).mono ?_; rintro e w' ⟨rfl, rfl⟩; rw [hw])
          go_round
          case rel => exact ⟨k1 + 1, by omega, by omega, by go_num, (by show _ = _; rw [← HR1.out, spl_skip L k1 hkL HWS.out])⟩
          case measure => simp [intOf]; omega
      · have hkn : k1 = n := by omega
        subst hkn
        have HE : Hid (acc = spl [] L) := by
          have := HR1.out
          rw [spl_done L k1 (by rw [HL.out]; exact Nat.le_refl _), List.append_nil] at this
          exact this
        go_wp2
        go_ret2
        exact ⟨u4, rfl, xs, by rw [← HE.out]; exact HO, by rw [← HE.out]; exact HW, HB⟩

set_option maxHeartbeats 400000 in
theorem zzSplit_any (a : Option Addr) (n cap : Nat) (L : List UInt8) (w : World) (hb : Bs w a n L) (hn : n ≤ 1048576) (HQ : Hid (∀ k, k < n → qt (L.getD k 0) = false)) :
    Calls Try.prog 9 #[.slice a n cap] w fun e w' => ∃ v, e = .returned (.tuple #[v, .bool true]) ∧ Hid (Split w w' v (spl [] L)) := by
  go_enter Try.func9, Try.ntmps9
  go_wp2_with (go_at_call 15; refine (split_any a n cap L _ hb hn HQ).mono ?_; rintro e w1 ⟨v, rfl, HS⟩)
  go_ret2
  exact ⟨v, rfl, HS⟩

end Go.Proofs.Qxb6606420a
