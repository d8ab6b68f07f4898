/-
  THE LAW FnUnsettledShrinksWithFurtherNeighbors, WALKED: it returns true, and nothing that was there has turned.
-/
import Derived.Test.Qxb6631297aLaw2
import Derived.Test.Qxb6631297aExactWalk
namespace Go.Proofs.Qxb6631297a
open Go.RowKit
set_option linter.unusedSimpArgs false
set_option linter.unusedVariables false
theorem Try.info22 : (Try.prog.info? 22).map (fun i => (i.zero, i.size, i.bytes)) = some (some (.agg (bs 0)), 16, 16) := by kernel_rfl
theorem getD_some {L : List Nat} {m : Nat} (h : m < L.length) : L[m]? = some (L.getD m 0) := by
  rw [List.getD_eq_getElem?_getD, List.getElem?_eq_getElem h]; rfl

set_option maxRecDepth 100000 in
set_option maxHeartbeats 1600000 in
theorem shrink_none (s p2 s2 : Nat) (hs : s < M128) (P : List Nat) (pa : Option Addr) (pc : Nat) (sa : Option Addr) (sc : Nat) (w : World) (hm1 : P.length ≤ maxLen) :
    Calls Try.prog 4 #[.agg (bs s), .slice pa P.length pc, .slice sa 0 sc, .agg (bs p2), .agg (bs s2)] w fun e w' => e = .returned (.bool true) ∧ Below w.heap.size w w' := by
  have hA := ((At.new w 22 s).alloc (.cells (bs p2) 22)).alloc (.cells (bs s2) 22)
  have hP := (At.new' (w.alloc (.cells (bs s) 22)) 22 p2 (g := w.heap.size + 1) (by simp)).alloc (.cells (bs s2) 22)
  have hQ := At.new' ((w.alloc (.cells (bs s) 22)).alloc (.cells (bs p2) 22)) 22 s2 (g := w.heap.size + 1 + 1) (by simp)
  have hB := (((Below.refl w.heap.size w).alloc (Nat.le_refl _) (.cells (bs s) 22)).alloc (by simp) (.cells (bs p2) 22)).alloc (by simp; omega) (.cells (bs s2) 22)
  go_enter Try.func4, Try.ntmps4
  go_wp2_with (first | (refine wpList_ld (by rfl) 22 _ (by rfl) .a w.heap.size (by rfl) 22 s (by exact hA) ?_) | (refine wpList_ld (by rfl) 22 _ (by rfl) .a (w.heap.size + 1) (by rfl) 22 p2 (by exact hP) ?_) | (refine wpList_ld (by rfl) 22 _ (by rfl) .a (w.heap.size + 1 + 1) (by rfl) 22 s2 (by exact hQ) ?_))
  refine (bytes2_any s p2 s2 pa P.length pc sa 0 sc hm1 (by unfold maxLen; omega) _).mono ?_
  rintro e w1 ⟨⟨b, rfl⟩, hb1⟩
  unfold maxLen at hm1
  have hB1 := bthen hB hb1
  clear hA hP hQ hB hb1
  cases b
  case false =>
    go_wp2
    go_ret
    exact ⟨rfl, hB1⟩
  case true =>
    by_cases k1 : P.length ≤ 32768
    all_goals
      go_wp2
      go_ret
      exact ⟨rfl, hB1⟩

set_option maxRecDepth 100000 in
set_option maxHeartbeats 3200000 in
theorem shrink_some (s p2 s2 : Nat) (hs : s < M128) (hp2 : p2 < M128) (hs2 : s2 < M128) (P S : List Nat) (pa : Option Addr) (pc : Nat) (sa : Option Addr) (sc m : Nat) (w : World) (h1 : InL w pa P.length pc P) (h2 : InL w sa S.length sc S) (hlS : S.length = m + 1) :
    Calls Try.prog 4 #[.agg (bs s), .slice pa P.length pc, .slice sa (m + 1) sc, .agg (bs p2), .agg (bs s2)] w fun e w' => e = .returned (.bool true) ∧ Below w.heap.size w w' := by
  have hA := ((At.new w 22 s).alloc (.cells (bs p2) 22)).alloc (.cells (bs s2) 22)
  have hP := (At.new' (w.alloc (.cells (bs s) 22)) 22 p2 (g := w.heap.size + 1) (by simp)).alloc (.cells (bs s2) 22)
  have hQ := At.new' ((w.alloc (.cells (bs s) 22)).alloc (.cells (bs p2) 22)) 22 s2 (g := w.heap.size + 1 + 1) (by simp)
  have hB := (((Below.refl w.heap.size w).alloc (Nat.le_refl _) (.cells (bs s) 22)).alloc (by simp) (.cells (bs p2) 22)).alloc (by simp; omega) (.cells (bs s2) 22)
  have hm1 := h1.max
  have hm2 : m + 1 ≤ maxLen := by rw [← hlS]; exact h2.max
  have HL : Hid _ := hlS
  clear hlS
  go_enter Try.func4, Try.ntmps4
  go_wp2_with (first | (refine wpList_ld (by rfl) 22 _ (by rfl) .a w.heap.size (by rfl) 22 s (by exact hA) ?_) | (refine wpList_ld (by rfl) 22 _ (by rfl) .a (w.heap.size + 1) (by rfl) 22 p2 (by exact hP) ?_) | (refine wpList_ld (by rfl) 22 _ (by rfl) .a (w.heap.size + 1 + 1) (by rfl) 22 s2 (by exact hQ) ?_))
  refine (bytes2_any s p2 s2 pa P.length pc sa (m + 1) sc hm1 hm2 _).mono ?_
  rintro e w1 ⟨⟨b, rfl⟩, hb1⟩
  unfold maxLen at hm1 hm2
  have hA1 := hA.kept hb1
  have hP1 := hP.kept hb1
  have hQ1 := hQ.kept hb1
  have hB1 := bthen hB hb1
  clear hA hP hQ hB hb1
  have hn1 : (((m : Int) + 1) == 0) = false := beq_eq_false_iff_ne.2 (by omega)
  cases b
  case false =>
    go_wp2
    go_ret
    exact ⟨rfl, hB1⟩
  case true =>
    by_cases k1 : P.length ≤ 32768
    case neg =>
      go_wp2
      go_ret
      exact ⟨rfl, hB1⟩
    by_cases k2 : m + 1 ≤ 32768
    case neg =>
      go_wp2
      go_ret
      exact ⟨rfl, hB1⟩
    by_cases k3 : m + 1 ≤ P.length
    case neg =>
      have k3' : decide ((P.length : Int) < (m : Int) + 1) = true := by rw [decide_eq_true_iff]; omega
      go_wp2
      go_ret
      exact ⟨rfl, hB1⟩
    have k3' : decide ((P.length : Int) < (m : Int) + 1) = false := by rw [decide_eq_false_iff_not]; omega
    have q1 := h1.seq.kept hB1
    have q2 := h2.seq.kept hB1
    have hgp : P[m]? = some (P.getD m 0) := getD_some (by omega)
    have hgq : S[m]? = some (S.getD m 0) := getD_some (by have := HL.out; omega)
    have cpair := fun W => pair_any s p2 s2 hs hp2 hs2 pa P.length pc sa m sc P S _ _ h1.lt h2.lt HL.out (by omega) (by omega) hgp hgq W
    have CP : Hid _ := cpair
    clear cpair hgp hgq
    go_wp2_with (first | (refine wpList_ld (by rfl) 22 _ (by rfl) .a w.heap.size (by rfl) 22 s (by exact hA1) ?_) | (refine wpList_ld (by rfl) 22 _ (by rfl) .a (w.heap.size + 1) (by rfl) 22 p2 (by exact hP1) ?_) | (refine wpList_ld (by rfl) 22 _ (by rfl) .a (w.heap.size + 1 + 1) (by rfl) 22 s2 (by exact hQ1) ?_))
    refine (CP.out _ q1 q2).mono ?_
    rintro e w2 ⟨rfl, hb2⟩
    have hA2 := hA1.kept hb2
    have hP2 := hP1.kept hb2
    have hQ2 := hQ1.kept hb2
    have hB2 := bthen hB1 hb2
    have r1 := q1.kept hb2
    have r2 := q2.kept hb2
    clear hA1 hP1 hQ1 hB1 q1 q2 hb2 CP
    cases hfp : fpp S (P.getD m 0) (S.getD m 0) s p2 s2
    case false =>
      go_wp2
      go_ret
      exact ⟨rfl, hB2⟩
    case true =>
      have HF : Hid _ := hfp
      clear hfp
      obtain ⟨i0, hi, hz0, hz1, hz2⟩ := info_parts Try.info22
      go_wp2_with (first | (at_make; refine wpList_make_full _ rfl _ _ 23 rfl w2.heap.size 22 i0 (.agg (bs 0)) 16 Try.underlying23 hi hz0 hz1 .i64 .i64 _ _ (m + 1 + 1) rfl rfl (by omega) (by omega) (by rw [hz2]; omega) (by unfold maxLen; omega) (Nat.le_refl _) ?_))
      intro w3 hown hg
      obtain ⟨P2, HP2⟩ : ∃ P2, Hid (P2 = P.take (m + 1) ++ [p2]) := ⟨_, rfl⟩
      have HLEN : Hid (P2.length = m + 1 + 1) := show P2.length = m + 1 + 1 by rw [HP2.out]; simp; omega
      have HE : Hid (∀ k n, k < m + 1 → P[k]? = some n → P2[k]? = some n) := fun k n hk hn => by
        rw [HP2.out, List.getElem?_append_left (by simp; omega), List.getElem?_take_of_lt hk, hn]
      have HEL : Hid (P2[m + 1]? = some p2) := show P2[m + 1]? = some p2 by
        rw [HP2.out, List.getElem?_append_right (by simp; omega)]
        simp [Nat.min_eq_left k3]
      have hST : ST w2 w2.heap.size 0 P2 w3 := ⟨by rw [HLEN.out]; exact there_of_own hown, fun j m hj => by omega, ⟨hg.os, hg.tape, hg.output, hg.size, fun k hk => hg.block k hk (by simp)⟩⟩
      clear hown hg
      go_wp2
      go_loopw [13] (fun i wr => ∃ k : Nat, k ≤ m + 1 ∧ i = .int .i64 (k : Int) ∧ ST w2 w2.heap.size k P2 wr) (fun i _ => m + 1 - (intOf i).toNat)
      case atStart => exact ⟨0, Nat.zero_le _, rfl, hST⟩
      case round =>
        clear hST
        obtain ⟨k, hk, rfl, hST⟩ := hrel
        by_cases hlt : k < m + 1
        · obtain ⟨n, hn⟩ : ∃ n, P[k]? = some n := ⟨_, List.getElem?_eq_getElem (by omega)⟩
          obtain ⟨b', off', e⟩ := (r1.kept hST.below).addr hn
          subst e
          have hr := (r1.kept hST.below).range hn
          have ht := there_at hST.there (show k < P2.length by rw [HLEN.out]; omega)
          have hnx := hST.next (Nat.le_refl _) (by rw [HLEN.out]; omega) (HE.out k n hlt hn)
          have hkI : (k : Int) < (m : Int) + 1 := by omega
          clear hn
          go_wp2_with (first | (refine wpList_lm (by rfl) 22 _ (by rfl) .a b' (off' + k * 16) (by rfl) n (by exact hr) ?_) | (refine wpList_sm (by rfl) 22 _ _ (by rfl) .a w2.heap.size (k * 16) n (by rfl) (by rfl) (by exact ht) ?_))
          go_roundw
          case rel => exact ⟨k + 1, by omega, by go_num, hnx⟩
          case measure => simp [intOf] <;> omega
        · obtain rfl : k = m + 1 := by omega
          have hA3 := hA2.kept hST.below
          have hP3 := hP2.kept hST.below
          have ht := there_at hST.there (show m + 1 < P2.length by rw [HLEN.out]; omega)
          have hnx := hST.next (Nat.le_refl _) (by rw [HLEN.out]; omega) HEL.out
          have hi2 : (m : Int) + 1 < (m : Int) + 1 + 1 := by omega
          have hX : Below w2.heap.size w2 (wr.setCells w2.heap.size ((m + 1) * 16) (bl p2)) := hnx.below
          have hSeq : Seq (wr.setCells w2.heap.size ((m + 1) * 16) (bl p2)) (some ⟨w2.heap.size, 0, none⟩) P2 := by
            have h := hnx
            rw [← HLEN.out] at h
            exact h.seq
          clear hnx hST
          go_wp2_with (first | (refine wpList_ld (by rfl) 22 _ (by rfl) .a (w.heap.size + 1) (by rfl) 22 p2 (by exact hP3) ?_) | (refine wpList_sm (by rfl) 22 _ _ (by rfl) .a w2.heap.size ((m + 1) * 16) p2 (by rfl) (by rfl) (by exact ht) ?_; generalize wr.setCells w2.heap.size ((m + 1) * 16) (bl p2) = X at *) | (at_make; refine wpList_make_full _ rfl _ _ 23 rfl 0 22 i0 (.agg (bs 0)) 16 Try.underlying23 hi hz0 hz1 .i64 .i64 _ _ (m + 1 + 1) rfl rfl (by omega) (by omega) (by rw [hz2]; omega) (by unfold maxLen; omega) (Nat.zero_le _) ?_))
          intro w4 hown hg
          have hAX := hA2.kept hX
          have hPX := hP2.kept hX
          have hQX := hQ2.kept hX
          have hBX := bthen hB2 hX
          have rX1 := r1.kept hX
          have rX2 := r2.kept hX
          have HELP := HEL
          clear hA2 hP2 hQ2 hB2 r1 r2 hX hA3 hP3 ht HE HEL
          obtain ⟨S2, HS2⟩ : ∃ S2, Hid (S2 = S ++ [s2]) := ⟨_, rfl⟩
          have HLEN2 : Hid (S2.length = m + 1 + 1) := show S2.length = m + 1 + 1 by rw [HS2.out]; simp [HL.out]
          have HE : Hid (∀ k n, k < m + 1 → S[k]? = some n → S2[k]? = some n) := fun k n hk hn => by
            rw [HS2.out, List.getElem?_append_left (by rw [HL.out]; exact hk), hn]
          have HEL : Hid (S2[m + 1]? = some s2) := show S2[m + 1]? = some s2 by
            rw [HS2.out, List.getElem?_append_right (by rw [HL.out]; omega), HL.out]
            simp
          have hST : ST X X.heap.size 0 S2 w4 := ⟨by rw [HLEN2.out]; exact there_of_own hown, fun j m hj => by omega, ⟨hg.os, hg.tape, hg.output, hg.size, fun k hk => hg.block k hk (by simp)⟩⟩
          clear hown hg
          go_wp2
          go_loopw [15] (fun i wr => ∃ k : Nat, k ≤ m + 1 ∧ i = .int .i64 (k : Int) ∧ ST X X.heap.size k S2 wr) (fun i _ => m + 1 - (intOf i).toNat)
          case atStart => exact ⟨0, Nat.zero_le _, rfl, hST⟩
          case round =>
            clear hST
            obtain ⟨k, hk, rfl, hST⟩ := hrel
            by_cases hlt : k < m + 1
            · obtain ⟨n, hn⟩ : ∃ n, S[k]? = some n := ⟨_, List.getElem?_eq_getElem (by rw [HL.out]; exact hlt)⟩
              obtain ⟨b', off', e⟩ := (rX2.kept hST.below).addr hn
              subst e
              have hr := (rX2.kept hST.below).range hn
              have ht := there_at hST.there (show k < S2.length by rw [HLEN2.out]; omega)
              have hnx := hST.next (Nat.le_refl _) (by rw [HLEN2.out]; omega) (HE.out k n hlt hn)
              have hkI : (k : Int) < (m : Int) + 1 := by omega
              clear hn
              go_wp2_with (first | (refine wpList_lm (by rfl) 22 _ (by rfl) .a b' (off' + k * 16) (by rfl) n (by exact hr) ?_) | (refine wpList_sm (by rfl) 22 _ _ (by rfl) .a X.heap.size (k * 16) n (by rfl) (by rfl) (by exact ht) ?_))
              go_roundw
              case rel => exact ⟨k + 1, by omega, by go_num, hnx⟩
              case measure => simp [intOf] <;> omega
            · obtain rfl : k = m + 1 := by omega
              have hQ5 := hQX.kept hST.below
              have ht := there_at hST.there (show m + 1 < S2.length by rw [HLEN2.out]; omega)
              have hnx := hST.next (Nat.le_refl _) (by rw [HLEN2.out]; omega) HEL.out
              have hY : Below X.heap.size X (wr.setCells X.heap.size ((m + 1) * 16) (bl s2)) := hnx.below
              have hSeq2 : Seq (wr.setCells X.heap.size ((m + 1) * 16) (bl s2)) (some ⟨X.heap.size, 0, none⟩) S2 := by
                have h := hnx
                rw [← HLEN2.out] at h
                exact h.seq
              clear hnx hST
              go_wp2_with (first | (refine wpList_ld (by rfl) 22 _ (by rfl) .a (w.heap.size + 1 + 1) (by rfl) 22 s2 (by exact hQ5) ?_) | (refine wpList_sm (by rfl) 22 _ _ (by rfl) .a X.heap.size ((m + 1) * 16) s2 (by rfl) (by rfl) (by exact ht) ?_; generalize wr.setCells X.heap.size ((m + 1) * 16) (bl s2) = Y at *))
              have hAY := hAX.kept hY
              have hBY := bthen hBX hY
              have rY1 := rX1.kept hY
              have rY2 := rX2.kept hY
              have sY1 := hSeq.kept hY
              clear hAX hPX hQX hBX rX1 rX2 hSeq hY hQ5 ht
              have ltP2 : Hid (∀ x ∈ P2, x < M128) := fun x hx => by
                rw [HP2.out, List.mem_append] at hx
                rcases hx with hx | hx
                · exact h1.lt x (List.mem_of_mem_take hx)
                · rw [List.mem_singleton] at hx; rw [hx]; exact hp2
              have ltS2 : Hid (∀ x ∈ S2, x < M128) := fun x hx => by
                rw [HS2.out, List.mem_append] at hx
                rcases hx with hx | hx
                · exact h2.lt x hx
                · rw [List.mem_singleton] at hx; rw [hx]; exact hs2
              have HSUB : Hid (∀ n ∈ modL s P2 S2, n ∈ modL s P S) := modL_shrinks s P S P2 S2 m p2 s2 HL.out HLEN2.out (by rw [List.getD_eq_getElem?_getD, HELP.out]; rfl) (by rw [List.getD_eq_getElem?_getD, HEL.out]; rfl) HF.out
              have tS : Hid (∀ W, Seq W sa S → Calls Try.prog 7 #[.slice sa (m + 1) sc] W fun e w' => (∃ a' c', e = .returned (.slice a' (m + 1) c') ∧ Seq w' a' S) ∧ Below W.heap.size W w') := fun W hW => by
                have := toIDs_any sa sc S h2.nil (by rw [HL.out]; omega) W hW
                rw [HL.out] at this
                exact this
              have tP2 : Hid (∀ W, Seq W (some ⟨w2.heap.size, 0, none⟩) P2 → Calls Try.prog 7 #[.slice (some ⟨w2.heap.size, 0, none⟩) (m + 1 + 1) (m + 1 + 1)] W fun e w' => (∃ a' c', e = .returned (.slice a' (m + 1 + 1) c') ∧ Seq w' a' P2) ∧ Below W.heap.size W w') := fun W hW => by
                have := toIDs_some w2.heap.size 0 (m + 1 + 1) none P2 (by rw [HLEN.out]; omega) W hW
                rw [HLEN.out] at this
                exact this
              have tS2 : Hid (∀ W, Seq W (some ⟨X.heap.size, 0, none⟩) S2 → Calls Try.prog 7 #[.slice (some ⟨X.heap.size, 0, none⟩) (m + 1 + 1) (m + 1 + 1)] W fun e w' => (∃ a' c', e = .returned (.slice a' (m + 1 + 1) c') ∧ Seq w' a' S2) ∧ Below W.heap.size W w') := fun W hW => by
                have := toIDs_some X.heap.size 0 (m + 1 + 1) none S2 (by rw [HLEN2.out]; omega) W hW
                rw [HLEN2.out] at this
                exact this
              have mS : Hid (∀ W, Seq W pa P → Seq W sa S → Calls Try.prog 11 #[.agg (bs s), .slice pa P.length pc, .slice sa (m + 1) sc] W fun e w' => (∃ v, e = .returned v ∧ w'.ownsRow W.heap.size 3 1 v (modL s P S).length (iV (modL s P S))) ∧ Below W.heap.size W w') := fun W hW hW2 => by
                have := model_any s hs P S pa pc sa sc h1.lt h2.lt (by rw [HL.out]; exact k3) (by rw [HL.out]; omega) W hW hW2
                rw [HL.out] at this
                exact this
              have mS2 : Hid (∀ W, Seq W (some ⟨w2.heap.size, 0, none⟩) P2 → Seq W (some ⟨X.heap.size, 0, none⟩) S2 → Calls Try.prog 11 #[.agg (bs s), .slice (some ⟨w2.heap.size, 0, none⟩) (m + 1 + 1) (m + 1 + 1), .slice (some ⟨X.heap.size, 0, none⟩) (m + 1 + 1) (m + 1 + 1)] W fun e w' => (∃ v, e = .returned v ∧ w'.ownsRow W.heap.size 3 1 v (modL s P2 S2).length (iV (modL s P2 S2))) ∧ Below W.heap.size W w') := fun W hW hW2 => by
                have := model_any s hs P2 S2 (some ⟨w2.heap.size, 0, none⟩) (m + 1 + 1) (some ⟨X.heap.size, 0, none⟩) (m + 1 + 1) ltP2.out ltS2.out (by rw [HLEN.out, HLEN2.out]; exact Nat.le_refl _) (by rw [HLEN2.out]; omega) W hW hW2
                rw [HLEN.out, HLEN2.out] at this
                exact this
              have U1 : Hid (unsL (fun i => cov P S (fst s i)) 16 = modL s P S) := uns_model s hs P S h1.lt h2.lt (by rw [HL.out]; exact k3)
              have U2 : Hid (unsL (fun i => cov P2 S2 (fst s i)) 16 = modL s P2 S2) := uns_model s hs P2 S2 ltP2.out ltS2.out (by rw [HLEN.out, HLEN2.out]; exact Nat.le_refl _)
              have N1 : Hid ((modL s P S).length ≤ 2 ^ 20) := show (modL s P S).length ≤ 2 ^ 20 by rw [← U1.out]; exact Nat.le_trans (unsL_le _ _) (by decide)
              have N2 : Hid ((modL s P2 S2).length ≤ 2 ^ 20) := show (modL s P2 S2).length ≤ 2 ^ 20 by rw [← U2.out]; exact Nat.le_trans (unsL_le _ _) (by decide)
              simp only [Act.put, List.setIfInBounds_toArray, List.set_cons_zero, List.set_cons_succ]
              refine wp_region_held_drew (S := fun w' => Below Y.heap.size Y w') (by kernel_rfl) (below_drew_self Y) (fun hHeld => ?_)
              refine wpAnyH_take (i := 0) (v := .agg (bs s)) (op_at rfl) (by kernel_rfl) (by kernel_rfl) (by kernel_rfl) (fun _ _ _ h => h) (yld (by rfl) 22 _ rfl .a w.heap.size rfl s 22 (fun _ h => hAY.kept h)) hHeld ?_
              simp only [Act.put, List.setIfInBounds_toArray, List.set_cons_zero, List.set_cons_succ]
              refine wpAnyH_take (i := 1) (v := .slice pa P.length pc) (op_at rfl) (by kernel_rfl) (by kernel_rfl) (by kernel_rfl) (fun _ _ _ h => h) (Or.inl ⟨by rfl, fun w hSw => rfl⟩) hHeld ?_
              simp only [Act.put, List.setIfInBounds_toArray, List.set_cons_zero, List.set_cons_succ]
              refine wpAnyH_take (i := 3) (v := .slice sa (m + 1) sc) (op_at rfl) (by kernel_rfl) (by kernel_rfl) (by kernel_rfl) (fun _ _ _ h => h) (Or.inl ⟨by rfl, fun w hSw => rfl⟩) hHeld ?_
              simp only [Act.put, List.setIfInBounds_toArray, List.set_cons_zero, List.set_cons_succ]
              refine wpAnyH_ready (rs := [2]) (by kernel_rfl) (by simp) ?_
              refine AllReadyH.cons (op_at rfl) (fun K hK => ?_) AllReadyH.nil
              go_simp
              refine (toIDs_any pa pc P h1.nil (by omega) _ (rY1.kept hHeld)).mono ?_
              rintro e w5 ⟨⟨a5, c5, rfl, z5⟩, hb5⟩
              refine hK.out _ _ (bthen hHeld hb5) (fun hHeld' => ?_)
              clear hK K hHeld
              have hHeld := hHeld'
              clear hHeld'
              try simp only [Act.put, List.setIfInBounds_toArray, List.set_cons_zero, List.set_cons_succ]
              refine wpAnyH_ready (rs := [4]) (by kernel_rfl) (by simp) ?_
              refine AllReadyH.cons (op_at rfl) (fun K hK => ?_) AllReadyH.nil
              go_simp
              refine (tS.out _ (rY2.kept hHeld)).mono ?_
              rintro e w6 ⟨⟨a6, c6, rfl, z6⟩, hb6⟩
              refine hK.out _ _ (bthen hHeld hb6) (fun hHeld' => ?_)
              clear hK K hHeld
              have hHeld := hHeld'
              clear hHeld'
              try simp only [Act.put, List.setIfInBounds_toArray, List.set_cons_zero, List.set_cons_succ]
              refine wpAnyH_ready (rs := [5]) (by kernel_rfl) (by simp) ?_
              refine AllReadyH.cons (op_at rfl) (fun K hK => ?_) AllReadyH.nil
              go_simp
              refine (newTable_any s a5 P.length c5 a6 (m + 1) c6 _).mono ?_
              rintro e w7 ⟨⟨T, rfl, hT⟩, hb7⟩
              refine hK.out _ _ (bthen hHeld hb7) (fun hHeld' => ?_)
              clear hK K hHeld
              have hHeld := hHeld'
              clear hHeld'
              try simp only [Act.put, List.setIfInBounds_toArray, List.set_cons_zero, List.set_cons_succ]
              refine wpAnyH_take (i := 6) (v := .pointer (some ⟨T, 0, none⟩)) (op_at rfl) (by kernel_rfl) (by kernel_rfl) (by kernel_rfl) (fun _ _ _ h => h) (Or.inl ⟨by rfl, fun w hSw => rfl⟩) hHeld ?_
              simp only [Act.put, List.setIfInBounds_toArray, List.set_cons_zero, List.set_cons_succ]
              refine wpAnyH_done (by kernel_rfl) ?_ _
              have hTab : TabL w7 T s P S a5 c5 a6 c6 := ⟨by rw [HL.out]; exact hT, (z5.kept hb6).kept hb7, z6.kept hb7, h1.lt, h2.lt, by rw [HL.out]; exact k3, by rw [HL.out]; omega⟩
              clear hT z5 z6 hb5 hb6 hb7
              have hA7 := hAY.kept hHeld
              have hB7 := bthen hBY hHeld
              have r71 := rY1.kept hHeld
              have r72 := rY2.kept hHeld
              have s71 := sY1.kept hHeld
              have s72 := hSeq2.kept hHeld
              clear hAY hBY rY1 rY2 sY1 hSeq2 hHeld
              go_wp2_with fail
              refine (unsettled_any T s hs P S a5 c5 a6 c6 _ hTab).mono ?_
              rintro e w8 ⟨⟨v8, rfl, o8⟩, hb8⟩
              rw [U1.out] at o8
              have i8 := ISeq.of_own o8
              have hA8 := hA7.kept hb8
              have hB8 := bthen hB7 hb8
              have r81 := r71.kept hb8
              have r82 := r72.kept hb8
              have s81 := s71.kept hb8
              have s82 := s72.kept hb8
              clear hA7 hB7 r71 r72 s71 s72 o8 hTab hb8
              go_wp2
              refine wp_region_held_drew (S := fun w' => Below w8.heap.size w8 w') (by kernel_rfl) (below_drew_self w8) (fun hHeld => ?_)
              refine wpAnyH_take (i := 0) (v := .agg (bs s)) (op_at rfl) (by kernel_rfl) (by kernel_rfl) (by kernel_rfl) (fun _ _ _ h => h) (yld (by rfl) 22 _ rfl .a w.heap.size rfl s 22 (fun _ h => hA8.kept h)) hHeld ?_
              simp only [Act.put, List.setIfInBounds_toArray, List.set_cons_zero, List.set_cons_succ]
              refine wpAnyH_take (i := 1) (v := .slice (some ⟨w2.heap.size, 0, none⟩) (m + 1 + 1) (m + 1 + 1)) (op_at rfl) (by kernel_rfl) (by kernel_rfl) (by kernel_rfl) (fun _ _ _ h => h) (Or.inl ⟨by rfl, fun w hSw => rfl⟩) hHeld ?_
              simp only [Act.put, List.setIfInBounds_toArray, List.set_cons_zero, List.set_cons_succ]
              refine wpAnyH_take (i := 3) (v := .slice (some ⟨X.heap.size, 0, none⟩) (m + 1 + 1) (m + 1 + 1)) (op_at rfl) (by kernel_rfl) (by kernel_rfl) (by kernel_rfl) (fun _ _ _ h => h) (Or.inl ⟨by rfl, fun w hSw => rfl⟩) hHeld ?_
              simp only [Act.put, List.setIfInBounds_toArray, List.set_cons_zero, List.set_cons_succ]
              refine wpAnyH_ready (rs := [2]) (by kernel_rfl) (by simp) ?_
              refine AllReadyH.cons (op_at rfl) (fun K hK => ?_) AllReadyH.nil
              go_simp
              refine (tP2.out _ (s81.kept hHeld)).mono ?_
              rintro e w9 ⟨⟨a9, c9, rfl, z9⟩, hb9⟩
              refine hK.out _ _ (bthen hHeld hb9) (fun hHeld' => ?_)
              clear hK K hHeld
              have hHeld := hHeld'
              clear hHeld'
              try simp only [Act.put, List.setIfInBounds_toArray, List.set_cons_zero, List.set_cons_succ]
              refine wpAnyH_ready (rs := [4]) (by kernel_rfl) (by simp) ?_
              refine AllReadyH.cons (op_at rfl) (fun K hK => ?_) AllReadyH.nil
              go_simp
              refine (tS2.out _ (s82.kept hHeld)).mono ?_
              rintro e w10 ⟨⟨a10, c10, rfl, z10⟩, hb10⟩
              refine hK.out _ _ (bthen hHeld hb10) (fun hHeld' => ?_)
              clear hK K hHeld
              have hHeld := hHeld'
              clear hHeld'
              try simp only [Act.put, List.setIfInBounds_toArray, List.set_cons_zero, List.set_cons_succ]
              refine wpAnyH_ready (rs := [5]) (by kernel_rfl) (by simp) ?_
              refine AllReadyH.cons (op_at rfl) (fun K hK => ?_) AllReadyH.nil
              go_simp
              refine (newTable_any s a9 (m + 1 + 1) c9 a10 (m + 1 + 1) c10 _).mono ?_
              rintro e w11 ⟨⟨T2, rfl, hT2⟩, hb11⟩
              refine hK.out _ _ (bthen hHeld hb11) (fun hHeld' => ?_)
              clear hK K hHeld
              have hHeld := hHeld'
              clear hHeld'
              try simp only [Act.put, List.setIfInBounds_toArray, List.set_cons_zero, List.set_cons_succ]
              refine wpAnyH_take (i := 6) (v := .pointer (some ⟨T2, 0, none⟩)) (op_at rfl) (by kernel_rfl) (by kernel_rfl) (by kernel_rfl) (fun _ _ _ h => h) (Or.inl ⟨by rfl, fun w hSw => rfl⟩) hHeld ?_
              simp only [Act.put, List.setIfInBounds_toArray, List.set_cons_zero, List.set_cons_succ]
              refine wpAnyH_done (by kernel_rfl) ?_ _
              have hTab : TabL w11 T2 s P2 S2 a9 c9 a10 c10 := ⟨by rw [HLEN.out, HLEN2.out]; exact hT2, (z9.kept hb10).kept hb11, z10.kept hb11, ltP2.out, ltS2.out, by rw [HLEN.out, HLEN2.out]; exact Nat.le_refl _, by rw [HLEN2.out]; omega⟩
              clear hT2 z9 z10 hb9 hb10 hb11
              have hA11 := hA8.kept hHeld
              have hB11 := bthen hB8 hHeld
              have r111 := r81.kept hHeld
              have r112 := r82.kept hHeld
              have s111 := s81.kept hHeld
              have s112 := s82.kept hHeld
              have i11 := i8.kept hHeld
              clear hA8 hB8 r81 r82 s81 s82 i8 hHeld
              go_wp2_with fail
              refine (unsettled_any T2 s hs P2 S2 a9 c9 a10 c10 _ hTab).mono ?_
              rintro e w12 ⟨⟨v12, rfl, o12⟩, hb12⟩
              rw [U2.out] at o12
              have j12 := ISeq.of_own o12
              have hA12 := hA11.kept hb12
              have hB12 := bthen hB11 hb12
              have r121 := r111.kept hb12
              have r122 := r112.kept hb12
              have s121 := s111.kept hb12
              have s122 := s112.kept hb12
              have i12 := i11.kept hb12
              clear hA11 hB11 r111 r112 s111 s112 i11 o12 hTab hb12
              go_wp2_with (first | (refine wpList_ld (by rfl) 22 _ (by rfl) .a w.heap.size (by rfl) 22 s (by exact hA12) ?_))
              refine (mS.out _ r121 r122).mono ?_
              rintro e w13 ⟨⟨v13, rfl, o13⟩, hb13⟩
              have z13 := ISeq.of_own o13
              have i13 := i12.kept hb13
              have j13 := j12.kept hb13
              have hA13 := hA12.kept hb13
              have hB13 := bthen hB12 hb13
              have s131 := s121.kept hb13
              have s132 := s122.kept hb13
              clear hA12 hB12 r121 r122 s121 s122 i12 j12 o13 hb13 mS tS tP2 tS2 U1 U2
              generalize modL s P S = L at *
              go_wp2_with fail
              refine (same_any v8 v13 L N1.out _ i13 z13).mono ?_
              rintro e w14 ⟨rfl, hb14⟩
              have hA14 := hA13.kept hb14
              have hB14 := bthen hB13 hb14
              have s141 := s131.kept hb14
              have s142 := s132.kept hb14
              have i14 := i13.kept hb14
              have j14 := j13.kept hb14
              clear hA13 hB13 s131 s132 i13 j13 hb14 z13
              go_wp2_with (first | (refine wpList_ldg (by rfl) 22 _ (by rfl) .a w.heap.size (by rfl) 22 s (by exact hA14) ?_))
              refine (mS2.out _ s141 s142).mono ?_
              rintro e w15 ⟨⟨v15, rfl, o15⟩, hb15⟩
              have z15 := ISeq.of_own o15
              have hB15 := bthen hB14 hb15
              have i15 := i14.kept hb15
              have j15 := j14.kept hb15
              clear hA14 hB14 s141 s142 i14 j14 o15 hb15 mS2
              generalize modL s P2 S2 = L2 at *
              go_wp2_with fail
              refine (same_any v12 v15 L2 N2.out _ j15 z15).mono ?_
              rintro e w16 ⟨rfl, hb16⟩
              go_wp2_with fail
              refine (subset_any v12 v8 L2 L N2.out N1.out HSUB.out _ (j15.kept hb16) (i15.kept hb16)).mono ?_
              rintro e w17 ⟨rfl, hb17⟩
              go_wp2
              go_ret
              exact ⟨rfl, bthen (bthen hB15 hb16) hb17⟩

theorem shrink_walk (s p2 s2 : Nat) (hs : s < M128) (hp2 : p2 < M128) (hs2 : s2 < M128) (P S : List Nat) (pa : Option Addr) (pc : Nat) (sa : Option Addr) (sc : Nat) (w : World) (h1 : InL w pa P.length pc P) (h2 : InL w sa S.length sc S) :
    Calls Try.prog 4 #[.agg (bs s), .slice pa P.length pc, .slice sa S.length sc, .agg (bs p2), .agg (bs s2)] w fun e w' => e = .returned (.bool true) ∧ Below w.heap.size w w' := by
  cases hn : S.length with
  | zero => exact shrink_none s p2 s2 hs P pa pc sa sc w h1.max
  | succ m => exact shrink_some s p2 s2 hs hp2 hs2 P S pa pc sa sc m w h1 h2 hn
end Go.Proofs.Qxb6631297a
