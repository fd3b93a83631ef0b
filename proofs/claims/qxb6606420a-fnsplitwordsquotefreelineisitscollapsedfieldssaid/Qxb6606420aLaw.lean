/-
  Seat b6606420a: the walk of FnSplitWordsQuoteFreeLineIsItsCollapsedFields.
-/
import Derived.Test.Qxb6606420aSplit
namespace Go.Proofs.Qxb6606420a
open Go.ChangeShapes Go.WideShapes Go.ChangeAt Go.RowKit
open Plain

set_option maxHeartbeats 400000 in
theorem law_out (a0 : Option Addr) (n0 c0 : Nat) (w : World) (h0 : n0 ≤ maxLen) (h : 1048576 < n0) :
    Calls Try.prog 3 #[.slice a0 n0 c0] w fun e w' => e = .returned (.bool true) ∧ Below w.heap.size w w' := by
  go_enter Try.func3, Try.ntmps3
  go_wp2_with (go_at_call 6; refine (bytes6_no a0 n0 c0 _ h h0).mono ?_; rintro e w' ⟨rfl, rfl⟩)
  go_ret
  exact ⟨rfl, Below.refl _ _⟩

theorem Split.shape {w w' : World} {v : Value} {W : List (List UInt8)} (h : Split w w' v W) :
    ∃ a c, v = .slice a W.length c ∧ (∀ j, j < W.length → ∃ gv g cw, a = some ⟨gv, 0, none⟩ ∧ gv < w'.heap.size ∧ w'.cell? ⟨gv, j, none⟩ = some (.slice (some ⟨g, 0, none⟩) (W.getD j []).length cw) ∧ Own w' w.heap.size g (W.getD j []).length cw (W.getD j [])) := by
  obtain ⟨xs, hown, hW, _⟩ := h
  rcases hown.2 with ⟨hv, h0⟩ | ⟨gv, cap, cur, hv, hb, hg, _⟩
  · refine ⟨none, 0, by rw [hv, h0], fun j hj => by omega⟩
  · refine ⟨some ⟨gv, 0, none⟩, cap, hv, fun j hj => ?_⟩
    obtain ⟨g, c, h1, h2⟩ := hW.2 j hj
    subst hv
    refine ⟨gv, g, c, rfl, (hown.lt gv rfl).2, ?_, h2⟩
    rw [hown.cellAt j (by omega)]
    exact h1

theorem jo_step (W : List (List UInt8)) (acc : List UInt8) (k : Nat) (h : k < W.length) (fst : Bool) : jo acc fst (W.drop k) = jo (if fst = true then acc ++ W.getD k [] else acc ++ [32] ++ W.getD k []) false (W.drop (k + 1)) := by
  have e : W.drop k = W.getD k [] :: W.drop (k + 1) := by rw [List.drop_eq_getElem_cons h, List.getD_eq_getElem?_getD, List.getElem?_eq_getElem h]; rfl
  rw [e]
  cases fst <;> simp [jo]

theorem Own.news {w : World} {base g n cap : Nat} {l : List UInt8} (h : Own w base g n cap l) : ∀ j u, (byteV l)[j]? = some u → w.cell? ((⟨g, 0, none⟩ : Addr).add j) = some u := h.2.cells rfl

set_option maxRecDepth 100000 in
set_option maxHeartbeats 3200000 in
theorem law_in (a : Option Addr) (n cap : Nat) (L : List UInt8) (w : World) (HB0 : Hid (Bs w a n L)) (hn : n ≤ 1048576) :
    Calls Try.prog 3 #[.slice a n cap] w fun e w' => e = .returned (.bool true) ∧ Below w.heap.size w w' := by
  go_enter Try.func3, Try.ntmps3
  go_wp2_with (go_at_call 6; refine (bytes6_yes a n cap _ hn).mono ?_; rintro e w' ⟨rfl, rfl⟩)
  go_loop [3] (fun i => ∃ k : Nat, k ≤ n ∧ i = .int .i64 k ∧ Hid (∀ j, j < k → qt (L.getD j 0) = false)) (fun i => n - (intOf i).toNat)
  case atStart => exact ⟨0, Nat.zero_le _, rfl, fun j hj => absurd hj (by omega)⟩
  case round =>
    obtain ⟨k, hk, rfl, HQ⟩ := hrel
    by_cases hlt : k < n
    · obtain ⟨b, off, rfl, hbl, hc⟩ := HB0.out.2 (by omega)
      have hck := hc k hlt
      obtain ⟨d, hd⟩ : ∃ d, d = L.getD k 0 := ⟨_, rfl⟩
      rw [← hd] at hck
      have HD : Hid (d = L.getD k 0) := hd
      have hki : (k : Int) < (n : Int) := by omega
      clear hd hc
      cases hq : qt d
      · go_wp2_with (go_at_call 7; refine (isQuote_any d _).mono ?_; rintro e w' ⟨rfl, rfl⟩; rw [hq])
        go_round
        case rel =>
          refine ⟨k + 1, by omega, by go_num, fun j hj => ?_⟩
          by_cases hjk : j < k
          · exact HQ.out j hjk
          · obtain rfl : j = k := by omega
            rw [← HD.out]; exact hq
        case measure => simp [intOf]; omega
      · go_wp2_with (go_at_call 7; refine (isQuote_any d _).mono ?_; rintro e w' ⟨rfl, rfl⟩; rw [hq])
        go_ret
        exact ⟨rfl, Below.refl _ _⟩
    · have hkn : k = n := by omega
      subst hkn
      clear hlt
      go_wp2_with fail
      refine (clone_any a k cap L _ HB0.out hn).mono ?_
      rintro e w1 ⟨a1, c1, rfl, HB1, HW1⟩
      go_wp2_with fail
      refine (zzSplit_any a1 k c1 L _ HB1.out hn HQ).mono ?_
      rintro e w2 ⟨v, rfl, HS⟩
      obtain ⟨av, cv, hv, hel⟩ := HS.out.shape
      have HE : Hid _ := hel
      have HW2 : Hid (Below w1.heap.size w1 w2) := by
        obtain ⟨_, _, _, h⟩ := HS.out
        exact h
      obtain ⟨W, hW⟩ : ∃ W, W = spl [] L := ⟨_, rfl⟩
      rw [← hW] at hv HE
      have HWE : Hid (W = spl [] L) := hW
      rw [hv]
      clear hv hel HS hW
      have hWl : W.length ≤ 1048577 := by
        have h1 := length_spl L []
        have h2 := HB1.out.1
        rw [HWE.out]
        omega
      have HG : Hid (∀ j, j < W.length → W.getD j [] ≠ [] ∧ ∀ c ∈ W.getD j [], ws c = false) := by
        intro j hj
        have : W.getD j [] ∈ spl [] L := by
          rw [← HWE.out, List.getD_eq_getElem?_getD, List.getElem?_eq_getElem hj]
          exact List.getElem_mem hj
        exact spl_good L [] (by simp) _ this
      have HBD : Hid (∀ (acc : List UInt8) (f : Bool) (R : List (List UInt8)), jo acc f R = jo [] true W → acc.length ≤ 2097152) := by
        intro acc f R h
        have h1 := length_le_jo R acc f
        have h2 := length_col L [] false
        have h3 := HB1.out.1
        rw [h, HWE.out, law L] at h1
        simp at h2
        omega
      go_wp2_with fail
      go_loopw [6, 7] (fun v i wr => ∃ (q g c m : Nat) (jn : List UInt8), q ≤ W.length ∧ i = .int .i64 q ∧ v = .slice (some ⟨g, 0, none⟩) m c ∧ Hid (Own wr w2.heap.size g m c jn) ∧ Hid (Below w2.heap.size w2 wr) ∧ Hid (jo jn (decide (q = 0)) (W.drop q) = jo [] true W)) (fun _ i _ => W.length - (intOf i).toNat)
      case atStart => exact ⟨0, w2.heap.size, 0, 0, [], Nat.zero_le _, rfl, rfl, ⟨rfl, World.ownsRow_lit w2 #[] 0 (Nat.le_refl _) (by unfold maxLen; omega) rfl⟩, (Below.refl _ _).alloc (Nat.le_refl _) _, rfl⟩
      case round =>
        obtain ⟨q, g, c, m, jn, hq, rfl, rfl, HO, HB, HJ⟩ := hrel
        have hszr := HB.out.size
        by_cases hlt : q < W.length
        · obtain ⟨gv, gw, cw, rfl, hgv, hcv, hown⟩ := HE.out q hlt
          obtain ⟨hne, hws⟩ := HG.out q hlt
          have HJ2 : Hid (jo (if decide (q = 0) = true then jn ++ W.getD q [] else jn ++ [32] ++ W.getD q []) false (W.drop (q + 1)) = jo [] true W) := by
            show _ = _
            rw [← HJ.out, jo_step W jn q hlt]
          obtain ⟨u, hu⟩ : ∃ u, u = W.getD q [] := ⟨_, rfl⟩
          rw [← hu] at hcv hown hne hws HJ2
          obtain ⟨lu, hlu⟩ : ∃ lu, lu = u.length := ⟨_, rfl⟩
          rw [← hlu] at hcv hown
          have HLU : Hid (lu = u.length) := hlu
          have hlu0 : 0 < lu := by rw [hlu]; exact List.length_pos_iff.2 hne
          have hcq : wr.cell? ⟨gv, q, none⟩ = some (.slice (some ⟨gw, 0, none⟩) lu cw) := by rw [HB.out.cell (by exact hgv)]; exact hcv
          have HOw : Hid (Own wr w1.heap.size gw lu cw u) := hown.keep HB.out hown.base.2
          have HGW : Hid (gw < w2.heap.size) := hown.base.2
          have HWS : Hid (∀ c ∈ u, ws c = false) := hws
          have hqi : (q : Int) < (W.length : Int) := by omega
          have hl0 : ((lu : Int) == 0) = false := by simp; omega
          have hlub : lu + m ≤ 2097153 := by
            have hb := HBD.out _ _ _ HJ2.out
            have hj := HO.out.1
            split at hb <;> simp at hb <;> omega
          clear hu hlu hown hcv hne hws
          go_wp2_with fail
          go_loop [9] (fun i => ∃ p : Nat, p ≤ lu ∧ i = .int .i64 p) (fun i => lu - (intOf i).toNat)
          case atStart => exact ⟨0, Nat.zero_le _, rfl⟩
          case round =>
            obtain ⟨p, hp, rfl⟩ := hrel
            by_cases hpl : p < lu
            · obtain ⟨b3, off3, e3, _, hc3⟩ := HOw.out.bs.2 (by omega)
              cases e3
              have hck := hc3 p hpl
              rw [Nat.zero_add] at hck
              have hw : ws (u.getD p 0) = false := by
                refine HWS.out _ ?_
                rw [List.getD_eq_getElem?_getD, List.getElem?_eq_getElem (by rw [← HLU.out]; exact hpl)]
                exact List.getElem_mem _
              obtain ⟨d, hd⟩ : ∃ d, d = u.getD p 0 := ⟨_, rfl⟩
              rw [← hd] at hck hw
              have hpi : (p : Int) < (lu : Int) := by omega
              clear hd hc3
              go_wp2_with (go_at_call 10; refine (isWS_any d _).mono ?_; rintro e w' ⟨rfl, rfl⟩; rw [hw])
              go_round
              case rel => exact ⟨p + 1, by omega, by go_num⟩
              case measure => simp [intOf]; omega
            · by_cases hq0 : q = 0
              · subst hq0
                go_wp2_with (at_builtin; refine wpList_push rfl (.tmp 66) (.tmp 67) rfl w2.heap.size g m c jn rfl HO.out ⟨gw, 0, none⟩ lu cw u rfl HLU.out.symm HOw.out.news hlu0 (by omega) hszr ?_; intro g1 c2 w3 HG1)
                go_roundw
                case rel => exact ⟨1, g1, c2, m + lu, jn ++ u, by omega, rfl, rfl, HG1.out.1, HG1.out.below HB.out hszr HO.out.base.1, HJ2⟩
                case measure => simp [intOf]; omega
              · have hq1 : (0 : Int) < (q : Int) := by omega
                have HJ3 : Hid (jo (jn ++ [32] ++ u) false (W.drop (q + 1)) = jo [] true W) := by
                  have := HJ2.out
                  rw [if_neg (by simpa using hq0)] at this
                  exact this
                go_wp2_with (first
                  | (at_builtin; refine wpList_push rfl (.tmp 63) (.tmp 64) rfl w2.heap.size g m c jn rfl (HO.out.alloc _) ⟨wr.heap.size, 0, none⟩ 1 1 [32] rfl rfl (news_32 _) (by decide) (by omega) (by simp; omega) ?_; intro g1 c2 w3 HG1; have hsz3 : w2.heap.size ≤ w3.heap.size := Nat.le_trans (by simp; omega) HG1.out.2.1.size; have HOw3 : Hid (Own w3 w1.heap.size gw lu cw u) := (HOw.out.alloc _).kept HG1.out.2.1 (fun e => by cases e; have := HO.out.base.1; have := HGW.out; omega))
                  | (at_builtin; refine wpList_push rfl (.tmp 66) (.tmp 67) rfl w2.heap.size g1 (m + 1) c2 (jn ++ [32]) rfl HG1.out.1 ⟨gw, 0, none⟩ lu cw u rfl HLU.out.symm HOw3.out.news hlu0 (by omega) hsz3 ?_; intro g2 c3 w4 HG2))
                go_roundw
                case rel => exact ⟨q + 1, g2, c3, m + 1 + lu, jn ++ [32] ++ u, by omega, by go_num, rfl, HG2.out.1, HG2.out.below (HG1.out.below (HB.out.alloc hszr _) (by simp; omega) HO.out.base.1) hsz3 HG1.out.1.base.1, (by show _ = _; rw [← HJ3.out]; simp)⟩
                case measure => simp [intOf]; omega
        · have HJE : Hid (jn = col [] false L) := by
            have h := HJ.out
            rw [List.drop_eq_nil_of_le (by omega)] at h
            rw [HWE.out, law L] at h
            show _ = _
            simpa [jo] using h
          have hqi : ¬ (q : Int) < (W.length : Int) := by omega
          have HBr : Hid (Bs wr a1 k L) := (HB1.out.keep HW2.out).keep HB.out
          have HWr : Hid (Below w.heap.size w wr) := (HW1.out.trans (HW2.out.mono HW1.out.size)).trans (HB.out.mono (Nat.le_trans HW1.out.size HW2.out.size))
          have HOr : Hid (Bs wr (some ⟨g, 0, none⟩) m jn) := HO.out.bs
          have hmb : m ≤ 4194304 := by
            have hb := HBD.out _ _ _ HJ.out
            rw [HO.out.1] at hb
            omega
          go_wp2_with fail
          refine (collapse_any a1 k c1 L _ HBr.out hn).mono ?_
          rintro e w3 ⟨g3, c3, m3, rfl, HO3, HW3⟩
          have hm3 : m3 = m := by
            rw [← HO3.out.1, ← HO.out.1, HJE.out]
          subst hm3
          go_wp2_with fail
          refine (same_yes (some ⟨g, 0, none⟩) (some ⟨g3, 0, none⟩) m3 c c3 jn _ (HOr.out.keep HW3.out) (by rw [HJE.out]; exact HO3.out.bs) hmb).mono ?_
          rintro e w4 ⟨rfl, HS4⟩
          go_wp2
          go_ret
          exact ⟨rfl, (HWr.out.trans (HW3.out.mono HWr.out.size)).trans HS4.out.below⟩

end Go.Proofs.Qxb6606420a
