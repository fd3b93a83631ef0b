/-
  Seat b6606447a: the container's model, plain, and the contract of zzContinuesModelPbB1.
-/
import Derived.Test.Qxb6606447aSkipModel
namespace Go.Proofs.Qxb6606447a
open Go.ChangeShapes Go.WideShapes Go.ChangeAt Go.RowKit
open Plain

/-- What a container answers, and where it leaves the cursor. -/
def contM (item : Bool) (ind : Int) (empty : Bool) (L : List UInt8) (pos : Nat) (at0 col fin : Int) : Bool × Nat × Int × Int :=
  if item = true then
    (if fin ≤ (pos : Int) then (!empty, pos, at0, col)
     else if rEnd at0 (L.drop pos) - col < ind then (false, pos, at0, col)
     else (true, pos + (skM at0 col ind (L.drop pos)).1, (skM at0 col ind (L.drop pos)).2))
  else
    (if 3 < rEnd at0 (L.drop pos) - col ∨ L.length ≤ pos + rLen (L.drop pos) ∨ L.getD (pos + rLen (L.drop pos)) 0 ≠ 62 then (false, pos, at0, col)
     else (true, pos + rLen (L.drop pos) + 1 + (skM (rEnd at0 (L.drop pos) + 1) (rEnd at0 (L.drop pos) + 1) 1 (L.drop (pos + rLen (L.drop pos) + 1))).1,
       (skM (rEnd at0 (L.drop pos) + 1) (rEnd at0 (L.drop pos) + 1) 1 (L.drop (pos + rLen (L.drop pos) + 1))).2))

theorem ret4 {o ok : Bool} {k P : Nat} {x A c C : Int} (h : (o, k, x, c) = (ok, P, A, C)) : Ending.returned (.tuple #[.bool o, .int .i64 (k : Int), .int .i64 x, .int .i64 c]) = .returned (.tuple #[.bool ok, .int .i64 (P : Int), .int .i64 A, .int .i64 C]) := by
  simp only [Prod.mk.injEq] at h
  rw [h.1, h.2.1, h.2.2.1, h.2.2.2]

set_option maxRecDepth 100000 in
set_option maxHeartbeats 1600000 in
theorem contModel_any (item : Bool) (ind : Int) (empty : Bool) (s : ByteArray) (p : Nat) (at0 col fin : Int) (w : World) (hs : s.size ≤ 1048576) (hp : p ≤ s.size) (h0 : 0 ≤ at0) (h1 : at0 ≤ 536870912) (hc0 : at0 ≤ col) (hc1 : col ≤ at0 + 4) (hl : -9223372036854775808 ≤ ind) (hu : ind ≤ 9223372036854775807)
    (ok : Bool) (P : Nat) (A C : Int) (HS : Hid (contM item ind empty s.data.toList p at0 col fin = (ok, P, A, C))) :
    Calls Try.prog 9 #[.bool item, .int .i64 ind, .bool empty, .string s, .int .i64 (p : Int), .int .i64 at0, .int .i64 col, .int .i64 fin] w fun e w' => e = .returned (.tuple #[.bool ok, .int .i64 (P : Int), .int .i64 A, .int .i64 C]) ∧ w = w' := by
  obtain ⟨E, hE⟩ : ∃ E, rEnd at0 (s.data.toList.drop p) = E := ⟨_, rfl⟩
  have HE : Hid (rEnd at0 (s.data.toList.drop p) = E) := hE
  have hEb := rEnd_ge (s.data.toList.drop p) at0 h0
  rw [hE] at hEb
  have hlen : (s.data.toList.drop p).length ≤ 1048576 := by simp; omega
  obtain ⟨hE0, hE1⟩ : at0 ≤ E ∧ E ≤ at0 + 4194304 := ⟨hEb.1, by have := hEb.2; omega⟩
  clear hEb hE hlen
  have hsz : s.data.toList.length = s.size := by simp
  have HSZ : Hid (s.data.toList.length = s.size) := hsz
  clear hsz
  cases item
  · obtain ⟨K, hK⟩ : ∃ K, rLen (s.data.toList.drop p) = K := ⟨_, rfl⟩
    have HK : Hid (rLen (s.data.toList.drop p) = K) := hK
    have hKb : p + K ≤ s.size := by
      have := rLen_le (s.data.toList.drop p)
      rw [hK] at this
      simp at this
      omega
    clear hK
    have HS' : Hid ((if 3 < E - col ∨ s.size ≤ p + K ∨ s.data.toList.getD (p + K) 0 ≠ 62 then (false, p, at0, col) else (true, p + K + 1 + (skM (E + 1) (E + 1) 1 (s.data.toList.drop (p + K + 1))).1, (skM (E + 1) (E + 1) 1 (s.data.toList.drop (p + K + 1))).2)) = (ok, P, A, C)) := by
      have h := HS.out
      unfold contM at h
      rw [if_neg (by decide), HE.out, HK.out, HSZ.out] at h
      exact h
    clear HS
    by_cases hout : 3 < E - col ∨ s.size ≤ p + K
    · have HF : Hid ((false, p, at0, col) = (ok, P, A, C)) := by
        have h := HS'.out
        rw [if_pos (by rcases hout with h | h; exact .inl h; exact .inr (.inl h))] at h
        exact h
      by_cases h3 : 3 < E - col
      all_goals
        go_enter Try.func9, Try.ntmps9
        go_wp2_with (first
          | (go_at_call 14; refine (runEnd_any s p at0 _ hs hp h0 (by omega) E HE).mono ?_; rintro e w' ⟨rfl, rfl⟩)
          | (go_at_call 16; refine (runLen_any s p _ hs hp K HK).mono ?_; rintro e w' ⟨rfl, rfl⟩))
        exact bodyPost_ret (v := .tuple #[.bool false, .int .i64 (p : Int), .int .i64 at0, .int .i64 col]) (by simp [results, Try.results9, go_sem]) rfl ⟨ret4 HF.out, rfl⟩
    · have hE3 : E - col ≤ 3 := by omega
      have hlt : p + K < s.size := by omega
      have HG : Hid (s.data.toList.getD (p + K) 0 = s[p + K]) := getD_data s (p + K) hlt
      clear hout
      by_cases h62 : (s[p + K].toNat : Int) = 62
      · obtain ⟨D, A', R', hD⟩ : ∃ D A' R', skM (E + 1) (E + 1) 1 (s.data.toList.drop (p + K + 1)) = (D, A', R') := ⟨_, _, _, rfl⟩
        have HF : Hid ((true, p + K + 1 + D, A', R') = (ok, P, A, C)) := by
          have h := HS'.out
          rw [if_neg (by rw [HG.out]; intro h'; rcases h' with h' | h' | h' <;> first | omega | exact h' (eq62.2 h62)), hD] at h
          exact h
        have HM : Hid (skM (E + 1) (E + 1) 1 (s.data.toList.drop (p + K + 1)) = (p + K + 1 + D - (p + K + 1), A', R') ∧ p + K + 1 ≤ p + K + 1 + D) := ⟨by rw [hD, Nat.add_sub_cancel_left], by omega⟩
        have h62' : ((s[p + K].toNat : Int) != 62) = false := by simpa using h62
        have hlti : (p : Int) + (K : Int) < (s.size : Int) := by omega
        have hlt0 : 0 ≤ (p : Int) + (K : Int) := by omega
        clear h62 hD
        go_enter Try.func9, Try.ntmps9
        go_wp2_with (first
          | (go_at_call 14; refine (runEnd_any s p at0 _ hs hp h0 (by omega) E HE).mono ?_; rintro e w' ⟨rfl, rfl⟩)
          | (go_at_call 16; refine (runLen_any s p _ hs hp K HK).mono ?_; rintro e w' ⟨rfl, rfl⟩))
        refine (skipModel_any s (p + K + 1) (E + 1) (E + 1) 1 _ hs (by omega) (by omega) (by omega) (by omega) (by omega) (by omega) (by omega) (p + K + 1 + D) A' R' HM).mono ?_
        rintro e w' ⟨rfl, rfl⟩
        go_wp2
        exact bodyPost_ret (v := .tuple #[.bool true, .int .i64 ((p + K + 1 + D : Nat) : Int), .int .i64 A', .int .i64 R']) (by simp [results, Try.results9, go_sem]) rfl ⟨ret4 HF.out, rfl⟩
      · have HF : Hid ((false, p, at0, col) = (ok, P, A, C)) := by
          have h := HS'.out
          rw [if_pos (.inr (.inr (by rw [HG.out]; exact fun e => h62 (eq62.1 e))))] at h
          exact h
        have h62' : ((s[p + K].toNat : Int) != 62) = true := by simpa using h62
        have hlti : (p : Int) + (K : Int) < (s.size : Int) := by omega
        have hlt0 : 0 ≤ (p : Int) + (K : Int) := by omega
        clear h62
        go_enter Try.func9, Try.ntmps9
        go_wp2_with (first
          | (go_at_call 14; refine (runEnd_any s p at0 _ hs hp h0 (by omega) E HE).mono ?_; rintro e w' ⟨rfl, rfl⟩)
          | (go_at_call 16; refine (runLen_any s p _ hs hp K HK).mono ?_; rintro e w' ⟨rfl, rfl⟩))
        exact bodyPost_ret (v := .tuple #[.bool false, .int .i64 (p : Int), .int .i64 at0, .int .i64 col]) (by simp [results, Try.results9, go_sem]) rfl ⟨ret4 HF.out, rfl⟩
  · by_cases hfin : fin ≤ (p : Int)
    · have HF : Hid ((!empty, p, at0, col) = (ok, P, A, C)) := by
        have h := HS.out
        unfold contM at h
        rw [if_pos rfl, if_pos hfin] at h
        exact h
      clear HS
      go_enter Try.func9, Try.ntmps9
      go_wp2
      exact bodyPost_ret (v := .tuple #[.bool !empty, .int .i64 (p : Int), .int .i64 at0, .int .i64 col]) (by simp [results, Try.results9, go_sem]) rfl ⟨ret4 HF.out, rfl⟩
    · by_cases hi : E - col < ind
      · have HF : Hid ((false, p, at0, col) = (ok, P, A, C)) := by
          have h := HS.out
          unfold contM at h
          rw [if_pos rfl, if_neg hfin, HE.out, if_pos hi] at h
          exact h
        clear HS
        go_enter Try.func9, Try.ntmps9
        go_wp2_with (go_at_call 14; refine (runEnd_any s p at0 _ hs hp h0 (by omega) E HE).mono ?_; rintro e w' ⟨rfl, rfl⟩)
        exact bodyPost_ret (v := .tuple #[.bool false, .int .i64 (p : Int), .int .i64 at0, .int .i64 col]) (by simp [results, Try.results9, go_sem]) rfl ⟨ret4 HF.out, rfl⟩
      · obtain ⟨D, A', R', hD⟩ : ∃ D A' R', skM at0 col ind (s.data.toList.drop p) = (D, A', R') := ⟨_, _, _, rfl⟩
        have HF : Hid ((true, p + D, A', R') = (ok, P, A, C)) := by
          have h := HS.out
          unfold contM at h
          rw [if_pos rfl, if_neg hfin, HE.out, if_neg hi, hD] at h
          exact h
        have HM : Hid (skM at0 col ind (s.data.toList.drop p) = (p + D - p, A', R') ∧ p ≤ p + D) := ⟨by rw [hD, Nat.add_sub_cancel_left], by omega⟩
        clear HS hD
        go_enter Try.func9, Try.ntmps9
        go_wp2_with (go_at_call 14; refine (runEnd_any s p at0 _ hs hp h0 (by omega) E HE).mono ?_; rintro e w' ⟨rfl, rfl⟩)
        refine (skipModel_any s p at0 col ind _ hs hp h0 (by omega) hc0 hc1 hl hu (p + D) A' R' HM).mono ?_
        rintro e w' ⟨rfl, rfl⟩
        go_wp2
        exact bodyPost_ret (v := .tuple #[.bool true, .int .i64 ((p + D : Nat) : Int), .int .i64 A', .int .i64 R']) (by simp [results, Try.results9, go_sem]) rfl ⟨ret4 HF.out, rfl⟩

end Go.Proofs.Qxb6606447a
