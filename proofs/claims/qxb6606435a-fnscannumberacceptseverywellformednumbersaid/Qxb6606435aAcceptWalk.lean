/-
  Seat b6606435a: the walk of FnScanNumberAcceptsEveryWellFormedNumber, all sizes in bounds.
-/
import Derived.Test.Qxb6606435aAccept
namespace Go.Proofs.Qxb6606435a
open Go.ChangeShapes Go.WideShapes Go.ChangeAt Go.RowKit
open Plain

set_option maxRecDepth 100000 in
set_option maxHeartbeats 6400000 in
theorem accept_in (p0 : Option Addr) (n0 c0 : Nat) (neg : Bool) (p2 : Option Addr) (n2 c2 : Nat) (p3 : Option Addr) (n3 c3 : Nat) (p4 : Option Addr) (n4 c4 : Nat) (up : Bool) (e : Int) (t : UInt8)
    (P R2 R3 R4 : List UInt8) (w : World) (h : n0 + n2 + n3 + n4 ≤ 1048576) (HP : Hid (Bs w p0 n0 P)) (HN : Hid (p0 = none → c0 = 0)) (H2 : Hid (Bs w p2 n2 R2)) (H3 : Hid (Bs w p3 n3 R3)) (H4 : Hid (Bs w p4 n4 R4)) (he : 0 ≤ e ∧ e ≤ 255) :
    Calls Try.prog 5 #[.slice p0 n0 c0, .bool neg, .slice p2 n2 c2, .slice p3 n3 c3, .slice p4 n4 c4, .bool up, .int .u8 e, .int .u8 (t.toNat : Int)] w fun e w' => e = .returned (.bool true) ∧ Below w.heap.size w w' := by
  obtain ⟨he1, he2⟩ := he
  obtain ⟨i0, hti, hz0, hz1, hz2⟩ := info_parts Try.info5
  go_enter Try.func5, Try.ntmps5
  go_upto_if 88 with (first
    | (go_at_call 11; refine (bytes11_yes p0 n0 c0 neg p2 n2 c2 p3 n3 c3 p4 n4 c4 up e (t.toNat : Int) _ h).mono ?_; rintro e w' ⟨rfl, rfl⟩)
    | (at_make; refine wpList_make_own _ rfl _ _ 22 rfl w.heap.size 5 i0 (.int .u8 0) 1 Try.underlying22 hti hz0 hz1 .i64 .i64 _ (n0 + n2 + n3 + n4 + 8) rfl rfl (by omega) (by rw [hz2]; omega) (by unfold maxLen; omega) (Nat.le_refl _) ?_; intro w1 hown1 hg1; have hB1 : Below w.heap.size w w1 := (Below.refl _ _).grown hg1 (Nat.le_refl _) (fun k h => by cases h); have HO1 : Hid (Own w1 w.heap.size w.heap.size 0 (n0 + n2 + n3 + n4 + 8) []) := ⟨rfl, hown1⟩; have HB1 : Hid (Below w.heap.size w w1) := hB1; clear hown1 hg1 hB1)
    | (at_builtin; refine wpList_pushs rfl (.tmp 83) (.tmp 84) rfl w.heap.size w.heap.size 0 (n0 + n2 + n3 + n4 + 8) [] rfl HO1.out p0 n0 c0 P rfl (HP.out.keep HB1.out) HN.out (by omega) HB1.out.size ?_; intro g1 cp1 w2 HG1))
  have HBuf : Hid (Buf w w2 g1 n0 cp1 P) := ⟨by simpa using HG1.out.1, HG1.out.below HB1.out HB1.out.size (Nat.le_refl _)⟩
  have HPL : Hid (P.length = n0) := HP.out.1
  clear HG1 HO1 HB1 HN HP
  go_cut [17] (fun s17 wx => ∃ g c m : Nat, s17 = .slice (some ⟨g, 0, none⟩) m c ∧ m ≤ n0 + 1 ∧ Hid (Buf w wx g m c (P ++ sgnT neg)))
  case first => as_aux_lemma =>
    cases neg
    · go_wp2
      go_meet
      case rel => exact ⟨g1, cp1, n0, rfl, by omega, by simpa [sgnT] using HBuf⟩
    · go_wp2_with (at_builtin; refine wpList_put rfl (.tmp 89) (.tmp 90) rfl g1 n0 cp1 P rfl HBuf 45 45 rfl rfl (by omega) ?_; intro g2 cp2 w3 HB2)
      go_meet
      case rel => exact ⟨g2, cp2, n0 + 1, rfl, by omega, by simpa [sgnT] using HB2⟩
  case rest =>
  clear HBuf
  obtain ⟨g, c, m, rfl, hm, HBuf⟩ := hcut
  go_upto_if 94 with fail
  go_cut [17] (fun s17 wx => ∃ g c m : Nat, s17 = .slice (some ⟨g, 0, none⟩) m c ∧ m ≤ n0 + n2 + 2 ∧ Hid (Buf w wx g m c (P ++ sgnT neg ++ intT R2)))
  case first => as_aux_lemma =>
    by_cases h20 : n2 = 0
    · have hR : R2 = [] := List.eq_nil_of_length_eq_zero (by rw [H2.out.1]; exact h20)
      have HR : Hid (intT R2 = [48]) := by rw [hR]; rfl
      have hb : ((n2 : Int) == 0) = true := by simpa using h20
      clear h20 hR
      go_wp2_with (at_builtin; refine wpList_put rfl (.tmp 95) (.tmp 96) rfl g m c (P ++ sgnT neg) rfl HBuf 48 48 rfl rfl (by omega) ?_; intro g2 cp2 w3 HB2)
      go_meet
      case rel => exact ⟨g2, cp2, m + 1, rfl, by omega, by rw [HR.out]; exact HB2⟩
    · have hb : ((n2 : Int) == 0) = false := by simpa using h20
      obtain ⟨b2, o2, rfl, hlt2, hc2⟩ := H2.out.2 (by omega)
      have hck : wc.cell? ⟨b2, o2, none⟩ = some (.int .u8 ((R2.getD 0 0).toNat : Int)) := by
        have := hc2 0 (by omega)
        rw [← HBuf.out.2.cell (by exact hlt2)] at this
        simpa using this
      obtain ⟨d, hd⟩ : ∃ d, d = R2.getD 0 0 := ⟨_, rfl⟩
      rw [← hd] at hck
      have hn2 : (0 : Int) < (n2 : Int) := by omega
      have hdb := d.toNat_lt
      have HC2 : Hid _ := hc2
      have HD : Hid (intT (R2.take 1) = [dg1 d]) := by
        show _ = _
        rw [hd]
        cases R2 with
        | nil => have := H2.out.1; simp at this; omega
        | cons x r => simp [intT]
      clear hc2 hd h20
      go_wp2_with (at_builtin; refine wpList_put rfl (.tmp 98) (.tmp 104) rfl g m c (P ++ sgnT neg) rfl HBuf _ (dg1 d) (by rw [dg1_nat]; omega) rfl (by omega) ?_; intro g2 cp2 w3 HB2)
      go_loopw [17, 19] (fun v i wr => ∃ k g c m : Nat, 1 ≤ k ∧ k ≤ n2 ∧ i = .int .i64 k ∧ v = .slice (some ⟨g, 0, none⟩) m c ∧ m ≤ n0 + 1 + k ∧ Hid (Buf w wr g m c (P ++ sgnT neg ++ intT (R2.take k)))) (fun _ i _ => n2 - (intOf i).toNat)
      case atStart => exact ⟨1, g2, cp2, m + 1, Nat.le_refl _, by omega, rfl, rfl, by omega, by rw [HD.out]; exact HB2⟩
      case round => as_aux_lemma =>
        clear HBuf HB2 hck hdb HD
        obtain ⟨k, g, c, m, hk1, hk, rfl, rfl, hm, HBuf⟩ := hrel
        by_cases hlt : k < n2
        · have hck := HBuf.out.read H2.out hlt
          obtain ⟨d, hd⟩ : ∃ d, d = R2.getD k 0 := ⟨_, rfl⟩
          rw [← hd] at hck
          have HT : Hid (intT (R2.take (k + 1)) = intT (R2.take k) ++ [dg d]) := by rw [hd]; exact intT_take R2 k hk1 (by rw [H2.out.1]; exact hlt)
          have hki : (k : Int) < (n2 : Int) := by omega
          have hdb := d.toNat_lt
          clear hd
          go_wp2_with (at_builtin; refine wpList_put rfl (.tmp 112) (.tmp 119) rfl g m c (P ++ sgnT neg ++ intT (R2.take k)) rfl HBuf _ (dg d) (by rw [dg_nat]; omega) rfl (by omega) ?_; intro g2 cp2 w3 HB2)
          go_roundw
          case rel => exact ⟨k + 1, g2, cp2, m + 1, by omega, by omega, by go_num, rfl, by omega, by rw [HT.out, ← List.append_assoc]; exact HB2⟩
          case measure => simp [intOf]; omega
        · have HT : Hid (intT (R2.take k) = intT R2) := by rw [List.take_of_length_le (by rw [H2.out.1]; omega)]; rfl
          go_wp2
          go_meet
          case rel => exact ⟨g, c, m, rfl, by omega, by rw [← HT.out]; exact HBuf⟩
  case rest =>
  clear HBuf hm
  obtain ⟨g, c, m, rfl, hm, HBuf⟩ := hcut
  obtain ⟨hf, hhf⟩ : ∃ hf : Bool, decide (0 < n3) = hf := ⟨_, rfl⟩
  go_upto_if 124 with fail
  go_cut [17, 20] (fun s17 s20 wx => s20 = .bool hf ∧ ∃ g c m : Nat, s17 = .slice (some ⟨g, 0, none⟩) m c ∧ m ≤ n0 + n2 + n3 + 3 ∧ Hid (Buf w wx g m c (P ++ sgnT neg ++ intT R2 ++ fracT R3)))
  case first => as_aux_lemma =>
    cases hf
    · have HR : Hid (fracT R3 = []) := by
        have h0 : n3 = 0 := by simpa using hhf
        have hR : R3 = [] := List.eq_nil_of_length_eq_zero (by rw [H3.out.1]; exact h0)
        rw [hR]; rfl
      go_wp2
      go_meet
      case rel => exact ⟨rfl, g, c, m, rfl, by omega, by rw [HR.out, List.append_nil]; exact HBuf⟩
    · have hn3 : 0 < n3 := by simpa using hhf
      obtain ⟨b3, o3, rfl, _, _⟩ := H3.out.2 hn3
      have HR : Hid (fracT R3 = 46 :: R3.map dg) := by
        have hR : R3 ≠ [] := fun e => by have := H3.out.1; rw [e] at this; simp at this; omega
        unfold fracT
        rw [if_neg hR]; rfl
      go_wp2_with (at_builtin; refine wpList_put rfl (.tmp 125) (.tmp 126) rfl g m c (P ++ sgnT neg ++ intT R2) rfl HBuf 46 46 rfl rfl (by omega) ?_; intro g2 cp2 w3 HB2)
      go_loopw [17, 21] (fun v i wr => ∃ k g c m : Nat, k ≤ n3 ∧ i = .int .i64 k ∧ v = .slice (some ⟨g, 0, none⟩) m c ∧ m ≤ n0 + n2 + 3 + k ∧ Hid (Buf w wr g m c (P ++ sgnT neg ++ intT R2 ++ ([46] ++ (R3.take k).map dg)))) (fun _ i _ => n3 - (intOf i).toNat)
      case atStart => exact ⟨0, g2, cp2, m + 1, Nat.zero_le _, rfl, rfl, by omega, HB2⟩
      case round => as_aux_lemma =>
        clear HBuf HB2 hm
        obtain ⟨k, g, c, m, hk, rfl, rfl, hm, HBuf⟩ := hrel
        by_cases hlt : k < n3
        · have hck := HBuf.out.read H3.out hlt
          obtain ⟨d, hd⟩ : ∃ d, d = R3.getD k 0 := ⟨_, rfl⟩
          rw [← hd] at hck
          have HT : Hid ((R3.take (k + 1)).map dg = (R3.take k).map dg ++ [dg d]) := by rw [hd]; exact map_take R3 k (by rw [H3.out.1]; exact hlt)
          have hki : (k : Int) < (n3 : Int) := by omega
          have hdb := d.toNat_lt
          clear hd
          go_wp2_with (at_builtin; refine wpList_put rfl (.tmp 134) (.tmp 141) rfl g m c (P ++ sgnT neg ++ intT R2 ++ ([46] ++ (R3.take k).map dg)) rfl HBuf _ (dg d) (by rw [dg_nat]; omega) rfl (by omega) ?_; intro g2 cp2 w3 HB2)
          go_roundw
          case rel => exact ⟨k + 1, g2, cp2, m + 1, by omega, by go_num, rfl, by omega, by rw [HT.out]; simpa only [List.append_assoc] using HB2⟩
          case measure => simp [intOf]; omega
        · have HT : Hid ((R3.take k).map dg = R3.map dg) := by rw [List.take_of_length_le (by rw [H3.out.1]; omega)]; rfl
          go_wp2
          go_meet
          case rel => exact ⟨rfl, g, c, m, rfl, by omega, by rw [HR.out]; have := HBuf.out; rw [HT.out] at this; exact this⟩
  case rest =>
  clear HBuf hm
  obtain ⟨rfl, g, c, m, rfl, hm, HBuf⟩ := hcut
  obtain ⟨hx, hhx⟩ : ∃ hx : Bool, decide (0 < n4) = hx := ⟨_, rfl⟩
  go_upto_if 146 with fail
  go_cut [17, 22] (fun s17 s22 wx => s22 = .bool hx ∧ ∃ g c m : Nat, s17 = .slice (some ⟨g, 0, none⟩) m c ∧ m ≤ n0 + n2 + n3 + n4 + 5 ∧ Hid (Buf w wx g m c (P ++ sgnT neg ++ intT R2 ++ fracT R3 ++ expT up e R4)))
  case first => as_aux_lemma =>
    obtain ⟨T, hT⟩ : ∃ T, T = P ++ sgnT neg ++ intT R2 ++ fracT R3 := ⟨_, rfl⟩
    have HTT : Hid (T = P ++ sgnT neg ++ intT R2 ++ fracT R3) := hT
    have HBuf : Hid (Buf w wc g m c T) := by rw [hT]; exact HBuf
    clear hT
    cases hx
    · have HR : Hid (expT up e R4 = []) := by
        have h0 : n4 = 0 := by simpa using hhx
        have hR : R4 = [] := List.eq_nil_of_length_eq_zero (by rw [H4.out.1]; exact h0)
        rw [hR]; rfl
      go_wp2
      go_meet
      case rel => exact ⟨rfl, g, c, m, rfl, by omega, by rw [HR.out, List.append_nil, ← HTT.out]; exact HBuf⟩
    · have hn4 : 0 < n4 := by simpa using hhx
      obtain ⟨b4, o4, rfl, _, _⟩ := H4.out.2 hn4
      have HR : Hid (expT up e R4 = [eT up] ++ (signT e ++ R4.map dg)) := by
        have hR : R4 ≠ [] := fun e => by have := H4.out.1; rw [e] at this; simp at this; omega
        unfold expT
        rw [if_neg hR]; rfl
      go_upto_if 147 with fail
      go_cut [17] (fun s17 wx => ∃ g c m : Nat, s17 = .slice (some ⟨g, 0, none⟩) m c ∧ m ≤ n0 + n2 + n3 + 4 ∧ Hid (Buf w wx g m c (T ++ [eT up])))
      case first => as_aux_lemma =>
        cases up
        · go_wp2_with (at_builtin; refine wpList_put rfl (.tmp 151) (.tmp 152) rfl g m c T rfl HBuf 101 101 rfl rfl (by omega) ?_; intro g2 cp2 w3 HB2)
          go_meet
          case rel => exact ⟨g2, cp2, m + 1, rfl, by omega, HB2⟩
        · go_wp2_with (at_builtin; refine wpList_put rfl (.tmp 148) (.tmp 149) rfl g m c T rfl HBuf 69 69 rfl rfl (by omega) ?_; intro g2 cp2 w3 HB2)
          go_meet
          case rel => exact ⟨g2, cp2, m + 1, rfl, by omega, HB2⟩
      case rest =>
      clear HBuf hm
      obtain ⟨g, c, m, rfl, hm, HBuf⟩ := hcut
      rename_i hrest
      refine hrest _ _ ?_
      clear hrest
      refine wp_seq_k ?_
      intro K5 hK5
      go_cut [17] (fun s17 wx => ∃ g c m : Nat, s17 = .slice (some ⟨g, 0, none⟩) m c ∧ m ≤ n0 + n2 + n3 + 5 ∧ Hid (Buf w wx g m c (T ++ [eT up] ++ signT e)))
      case first => as_aux_lemma =>
        by_cases h1 : e % 3 = 1
        · have HS : Hid (signT e = [43]) := by unfold signT; rw [if_pos h1]; rfl
          have hb1 : (e % 3 == 1) = true := by simpa using h1
          clear h1
          go_wp2_with (at_builtin; refine wpList_put rfl (.tmp 158) (.tmp 159) rfl g m c (T ++ [eT up]) rfl HBuf 43 43 rfl rfl (by omega) ?_; intro g2 cp2 w3 HB2)
          go_meet
          case rel => exact ⟨g2, cp2, m + 1, rfl, by omega, by rw [HS.out]; exact HB2⟩
        · have hb1 : (e % 3 == 1) = false := by simpa using h1
          by_cases h2 : e % 3 = 2
          · have HS : Hid (signT e = [45]) := by unfold signT; rw [if_neg h1, if_pos h2]; rfl
            have hb2 : (e % 3 == 2) = true := by simpa using h2
            clear h1 h2
            go_wp2_with (at_builtin; refine wpList_put rfl (.tmp 163) (.tmp 164) rfl g m c (T ++ [eT up]) rfl HBuf 45 45 rfl rfl (by omega) ?_; intro g2 cp2 w3 HB2)
            go_meet
            case rel => exact ⟨g2, cp2, m + 1, rfl, by omega, by rw [HS.out]; exact HB2⟩
          · have HS : Hid (signT e = []) := by unfold signT; rw [if_neg h1, if_neg h2]; rfl
            have hb2 : (e % 3 == 2) = false := by simpa using h2
            clear h1 h2
            go_wp2
            go_meet
            case rel => exact ⟨g, c, m, rfl, by omega, by rw [HS.out, List.append_nil]; exact HBuf⟩
      case rest =>
      clear HBuf hm
      obtain ⟨g, c, m, rfl, hm, HBuf⟩ := hcut
      refine hK5 _ _ ?_
      clear hK5 K5
      go_wp2_with fail
      go_loopw [17, 23] (fun v i wr => ∃ k g c m : Nat, k ≤ n4 ∧ i = .int .i64 k ∧ v = .slice (some ⟨g, 0, none⟩) m c ∧ m ≤ n0 + n2 + n3 + 5 + k ∧ Hid (Buf w wr g m c (T ++ [eT up] ++ signT e ++ (R4.take k).map dg))) (fun _ i _ => n4 - (intOf i).toNat)
      case atStart => exact ⟨0, g, c, m, Nat.zero_le _, rfl, rfl, by omega, by simpa using HBuf⟩
      case round => as_aux_lemma =>
        clear HBuf hm
        obtain ⟨k, g, c, m, hk, rfl, rfl, hm, HBuf⟩ := hrel
        by_cases hlt : k < n4
        · have hck := HBuf.out.read H4.out hlt
          obtain ⟨d, hd⟩ : ∃ d, d = R4.getD k 0 := ⟨_, rfl⟩
          rw [← hd] at hck
          have HT : Hid ((R4.take (k + 1)).map dg = (R4.take k).map dg ++ [dg d]) := by rw [hd]; exact map_take R4 k (by rw [H4.out.1]; exact hlt)
          have hki : (k : Int) < (n4 : Int) := by omega
          have hdb := d.toNat_lt
          clear hd
          go_wp2_with (at_builtin; refine wpList_put rfl (.tmp 172) (.tmp 179) rfl g m c (T ++ [eT up] ++ signT e ++ (R4.take k).map dg) rfl HBuf _ (dg d) (by rw [dg_nat]; omega) rfl (by omega) ?_; intro g2 cp2 w3 HB2)
          go_roundw
          case rel => exact ⟨k + 1, g2, cp2, m + 1, by omega, by go_num, rfl, by omega, by rw [HT.out, ← List.append_assoc]; exact HB2⟩
          case measure => simp [intOf]; omega
        · have HT : Hid ((R4.take k).map dg = R4.map dg) := by rw [List.take_of_length_le (by rw [H4.out.1]; omega)]; rfl
          go_wp2
          go_meet
          case rel => exact ⟨rfl, g, c, m, rfl, by omega, by show Buf _ _ _ _ _ _; rw [HR.out, ← HTT.out]; have := HBuf.out; rw [HT.out] at this; simpa only [List.append_assoc] using this⟩
  case rest =>
  clear HBuf hm
  obtain ⟨rfl, g, c, m, rfl, hm, HBuf⟩ := hcut
  have HF : Hid (hf = false ↔ R3 = []) := nil_iff hhf H3.out.1
  have HX : Hid (hx = false ↔ R4 = []) := nil_iff hhx H4.out.1
  obtain ⟨z2, hz2⟩ : ∃ z2 : Bool, ((n2 : Int) == 0) = z2 := ⟨_, rfl⟩
  have HZ : Hid (z2 = true ↔ R2 = []) := nil_iff0 hz2 H2.out.1
  obtain ⟨T, hT⟩ : ∃ T, T = sgnT neg ++ intT R2 ++ fracT R3 ++ expT up e R4 := ⟨_, rfl⟩
  have HT : Hid (T = sgnT neg ++ intT R2 ++ fracT R3 ++ expT up e R4) := hT
  have HBuf : Hid (Buf w wc g m c (P ++ T)) := by show Buf _ _ _ _ _ _; rw [hT]; have := HBuf.out; simpa only [List.append_assoc] using this
  have HTP : Hid (0 < T.length) := by rw [hT]; exact textT_pos neg up e R2 R3 R4
  have HGO : Hid (goes 0 T = some (stE R2 R3 R4)) := by rw [hT]; exact goes_all neg up e R2 R3 R4
  have hPn : P.length = n0 := HPL.out
  have HPn : Hid (P.length = n0) := hPn
  have hmT : m = n0 + T.length := by rw [← HBuf.out.1.1, List.length_append, hPn]
  have hm0 : n0 < m := by have := HTP.out; omega
  have HE1 : Hid (Ends (P ++ T) n0 m true) := ⟨by rw [← hPn, scan_text P T _ HGO.out (acc_stE R2 R3 R4), hmT, hPn, Nat.add_sub_cancel_left], by omega⟩
  have HMT : Hid (m = n0 + T.length) := hmT
  clear hT hPn hmT H2 H3 H4
  go_upto_region 44 with (go_at_call 7; refine (zzScan_any (some ⟨g, 0, none⟩) m c n0 (P ++ T) _ HBuf.out.1.bs (by omega) hm0 m true HE1).mono ?_; rintro e w' ⟨rfl, rfl⟩)
  have hge := HBuf.out.2.size
  obtain ⟨bz, hbz⟩ : ∃ bz : Bool, bz = (z2 && !hf && !hx) := ⟨_, rfl⟩
  have HBZ : Hid (bz = (z2 && !hf && !hx)) := hbz
  clear hbz
  go_cut [27] (fun s27 wx => wc = wx ∧ s27 = .bool bz)
  case first => as_aux_lemma =>
    cases z2
    · go_wp2
      go_meet
      case rel => exact ⟨rfl, by rw [HBZ.out]; first | rfl | simp⟩
    · cases hf
      · go_wp2
        go_meet
        case rel => exact ⟨rfl, by rw [HBZ.out]; first | rfl | simp⟩
      · go_wp2
        go_meet
        case rel => exact ⟨rfl, by rw [HBZ.out]; first | rfl | simp⟩
  case rest =>
  obtain ⟨rfl, rfl⟩ := hcut
  obtain ⟨r1, hr1⟩ : ∃ r1 : Bool, r1 = (dig t && !bz) := ⟨_, rfl⟩
  have HR1 : Hid (r1 = (dig t && !bz)) := hr1
  clear hr1
  go_upto_region 45 with fail
  go_cut [212] (fun s212 wx => wc = wx ∧ s212 = .bool r1)
  case first => as_aux_lemma =>
    cases hdt : dig t
    · go_wp2_with (go_at_call 10; refine (isDigit_any t _).mono ?_; rintro e w' ⟨rfl, rfl⟩; rw [hdt])
      go_meet
      case rel => exact ⟨rfl, by rw [HR1.out, hdt]; first | rfl | simp⟩
    · go_wp2_with (go_at_call 10; refine (isDigit_any t _).mono ?_; rintro e w' ⟨rfl, rfl⟩; rw [hdt])
      go_meet
      case rel => exact ⟨rfl, by rw [HR1.out, hdt]; first | rfl | simp⟩
  case rest =>
  obtain ⟨rfl, rfl⟩ := hcut
  cases r1
  case true => as_aux_lemma =>
    go_wp2
    go_ret
    exact ⟨rfl, HBuf.out.2⟩
  case false =>
  obtain ⟨r2, hr2⟩ : ∃ r2 : Bool, r2 = (!hx && ex t) := ⟨_, rfl⟩
  have HR2 : Hid (r2 = (!hx && ex t)) := hr2
  clear hr2
  go_upto_region 47 with fail
  go_cut [222] (fun s222 wx => wc = wx ∧ s222 = .bool r2)
  case first => as_aux_lemma =>
    cases hx
    · by_cases h1 : (t.toNat : Int) = 101
      · have hb1 : ((t.toNat : Int) == 101) = true := by simpa using h1
        have HD : Hid (decide ((t.toNat : Int) = 101 ∨ (t.toNat : Int) = 69) = true) := decide_eq_true (.inl h1)
        clear h1
        go_wp2
        go_meet
        case rel => exact ⟨rfl, by rw [HR2.out, ex_int, HD.out]; first | rfl | simp⟩
      · have hb1 : ((t.toNat : Int) == 101) = false := by simpa using h1
        by_cases h2 : (t.toNat : Int) = 69
        · have hb2 : ((t.toNat : Int) == 69) = true := by simpa using h2
          have HD : Hid (decide ((t.toNat : Int) = 101 ∨ (t.toNat : Int) = 69) = true) := decide_eq_true (.inr h2)
          clear h1 h2
          go_wp2
          go_meet
          case rel => exact ⟨rfl, by rw [HR2.out, ex_int, HD.out]; first | rfl | simp⟩
        · have hb2 : ((t.toNat : Int) == 69) = false := by simpa using h2
          have HD : Hid (decide ((t.toNat : Int) = 101 ∨ (t.toNat : Int) = 69) = false) := decide_eq_false (by omega)
          clear h1 h2
          go_wp2
          go_meet
          case rel => exact ⟨rfl, by rw [HR2.out, ex_int, HD.out]; first | rfl | simp⟩
    · go_wp2
      go_meet
      case rel => exact ⟨rfl, by rw [HR2.out]; first | rfl | simp⟩
  case rest =>
  obtain ⟨rfl, rfl⟩ := hcut
  cases r2
  case true => as_aux_lemma =>
    go_wp2
    go_ret
    exact ⟨rfl, HBuf.out.2⟩
  case false =>
  obtain ⟨r3, hr3⟩ : ∃ r3 : Bool, r3 = (!hx && !hf && decide ((t.toNat : Int) = 46)) := ⟨_, rfl⟩
  have HR3 : Hid (r3 = (!hx && !hf && decide ((t.toNat : Int) = 46))) := hr3
  clear hr3
  go_upto_region 49 with fail
  go_cut [232] (fun s232 wx => wc = wx ∧ s232 = .bool r3)
  case first => as_aux_lemma =>
    cases hx
    · cases hf
      · by_cases h1 : (t.toNat : Int) = 46
        · have hb1 : ((t.toNat : Int) == 46) = true := by simpa using h1
          have HD : Hid (decide ((t.toNat : Int) = 46) = true) := decide_eq_true h1
          clear h1
          go_wp2
          go_meet
          case rel => exact ⟨rfl, by rw [HR3.out, HD.out]; first | rfl | simp⟩
        · have hb1 : ((t.toNat : Int) == 46) = false := by simpa using h1
          have HD : Hid (decide ((t.toNat : Int) = 46) = false) := decide_eq_false h1
          clear h1
          go_wp2
          go_meet
          case rel => exact ⟨rfl, by rw [HR3.out, HD.out]; first | rfl | simp⟩
      · go_wp2
        go_meet
        case rel => exact ⟨rfl, by rw [HR3.out]; first | rfl | simp⟩
    · go_wp2
      go_meet
      case rel => exact ⟨rfl, by rw [HR3.out]; first | rfl | simp⟩
  case rest =>
  obtain ⟨rfl, rfl⟩ := hcut
  cases r3
  case true => as_aux_lemma =>
    go_wp2
    go_ret
    exact ⟨rfl, HBuf.out.2⟩
  case false => as_aux_lemma =>
  have HST : Hid (stp (stE R2 R3 R4) t = none) := stops_of HF.out HX.out HZ.out HBZ.out HR1.out HR2.out HR3.out
  have HE2 : Hid (Ends (P ++ T ++ [t]) n0 m true) := ⟨by rw [← HPn.out, scan_text_then P T t _ HGO.out (acc_stE R2 R3 R4) HST.out, HMT.out, HPn.out, Nat.add_sub_cancel_left], by omega⟩
  go_wp2_with (at_builtin; refine wpList_put rfl (.tmp 233) (.tmp 235) rfl g m c (P ++ T) rfl HBuf _ t rfl rfl (by omega) ?_; intro g2 cp2 w3 HB2)
  refine (zzScan_any (some ⟨g2, 0, none⟩) (m + 1) cp2 n0 (P ++ T ++ [t]) _ HB2.out.1.bs (by omega) (by omega) m true HE2).mono ?_
  rintro e w' ⟨rfl, rfl⟩
  go_wp2
  go_ret
  exact ⟨ret_bool (by simp), HB2.out.2⟩

end Go.Proofs.Qxb6606435a
