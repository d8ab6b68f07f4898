/-
  THE LAW FnUnsettledExactAndShiftInvariant, WALKED: it returns true, and nothing that was there has turned.
-/
import Derived.Test.Qxb6631297aInts
import Derived.Test.Qxb6631297aLaw
namespace Go.Proofs.Qxb6631297a
open Go.RowKit
set_option linter.unusedSimpArgs false
set_option linter.unusedVariables false
/-- A slice of identifiers that came in. -/
structure InL (w : World) (a : Option Addr) (n cap : Nat) (L : List Nat) : Prop where
  len : L.length = n
  max : n ≤ maxLen
  nil : a = none → L = [] ∧ cap = 0
  seq : Seq w a L
  lt : ∀ x ∈ L, x < M128
theorem below_drew_self (w : World) : Below w.heap.size w w.drew := (Below.refl _ _).drew

set_option maxRecDepth 100000 in
set_option maxHeartbeats 1600000 in
theorem exact_walk (s c : Nat) (hs : s < M128) (hc : c < M128) (P S : List Nat) (pa : Option Addr) (pc : Nat) (sa : Option Addr) (sc : Nat) (w : World) (h1 : InL w pa P.length pc P) (h2 : InL w sa S.length sc S) :
    Calls Try.prog 3 #[.agg (bs s), .slice pa P.length pc, .slice sa S.length sc, .agg (bs c)] w fun e w' => e = .returned (.bool true) ∧ Below w.heap.size w w' := by
  have hA := (At.new w 22 s).alloc (.cells (bs c) 22)
  have hC := At.new' (w.alloc (.cells (bs s) 22)) 22 c (g := w.heap.size + 1) (by simp)
  have hB := ((Below.refl w.heap.size w).alloc (Nat.le_refl _) (.cells (bs s) 22)).alloc (by simp) (.cells (bs c) 22)
  have hm1 := h1.max
  have hm2 := h2.max
  go_enter Try.func3, Try.ntmps3
  go_wp2_with (first | (refine wpList_ld (by rfl) 22 _ (by rfl) .a w.heap.size (by rfl) 22 s (by exact hA) ?_) | (refine wpList_ld (by rfl) 22 _ (by rfl) .a (w.heap.size + 1) (by rfl) 22 c (by exact hC) ?_))
  refine (bytes1_any s c pa P.length pc sa S.length sc hm1 hm2 _).mono ?_
  rintro e w1 ⟨⟨b, rfl⟩, hb1⟩
  unfold maxLen at hm1 hm2
  have hA1 := hA.kept hb1
  have hC1 := hC.kept hb1
  have hB1 := bthen hB hb1
  clear hA hC hB hb1
  cases b
  case false =>
    go_wp2
    go_ret
    exact ⟨rfl, hB1⟩
  case true =>
    by_cases k1 : P.length ≤ 32768
    case neg =>
      go_wp2
      go_ret
      exact ⟨rfl, hB1⟩
    by_cases k2 : S.length ≤ 32768
    case neg =>
      go_wp2
      go_ret
      exact ⟨rfl, hB1⟩
    by_cases k3 : S.length ≤ P.length
    case neg =>
      go_wp2
      go_ret
      exact ⟨rfl, hB1⟩
    have q1 := h1.seq.kept hB1
    have q2 := h2.seq.kept hB1
    go_wp2
    refine wp_region_held_drew (S := fun w' => Below w1.heap.size w1 w') (by kernel_rfl) (below_drew_self w1) (fun hHeld => ?_)
    refine wpAnyH_take (i := 0) (v := .agg (bs s)) (op_at rfl) (by kernel_rfl) (by kernel_rfl) (by kernel_rfl) (fun _ _ _ h => h) (yld (by rfl) 22 _ rfl .a w.heap.size rfl s 22 (fun _ h => hA1.kept h)) hHeld ?_
    simp only [Act.put, List.setIfInBounds_toArray, List.set_cons_zero, List.set_cons_succ]
    refine wpAnyH_take (i := 1) (v := .slice pa P.length pc) (op_at rfl) (by kernel_rfl) (by kernel_rfl) (by kernel_rfl) (fun _ _ _ h => h) (Or.inl ⟨by rfl, fun w hSw => rfl⟩) hHeld ?_
    simp only [Act.put, List.setIfInBounds_toArray, List.set_cons_zero, List.set_cons_succ]
    refine wpAnyH_take (i := 3) (v := .slice sa S.length sc) (op_at rfl) (by kernel_rfl) (by kernel_rfl) (by kernel_rfl) (fun _ _ _ h => h) (Or.inl ⟨by rfl, fun w hSw => rfl⟩) hHeld ?_
    simp only [Act.put, List.setIfInBounds_toArray, List.set_cons_zero, List.set_cons_succ]
    refine wpAnyH_ready (rs := [2]) (by kernel_rfl) (by simp) ?_
    refine AllReadyH.cons (op_at rfl) (fun K hK => ?_) AllReadyH.nil
    go_simp
    refine (toIDs_any pa pc P h1.nil (by omega) _ (q1.kept hHeld)).mono ?_
    rintro e w2 ⟨⟨a2, c2, rfl, r2⟩, hb2⟩
    refine hK.out _ _ (bthen hHeld hb2) (fun hHeld' => ?_)
    clear hK K hHeld
    have hHeld := hHeld'
    clear hHeld'
    try simp only [Act.put, List.setIfInBounds_toArray, List.set_cons_zero, List.set_cons_succ]
    refine wpAnyH_ready (rs := [4]) (by kernel_rfl) (by simp) ?_
    refine AllReadyH.cons (op_at rfl) (fun K hK => ?_) AllReadyH.nil
    go_simp
    refine (toIDs_any sa sc S h2.nil (by omega) _ (q2.kept hHeld)).mono ?_
    rintro e w3 ⟨⟨a3, c3, rfl, r3⟩, hb3⟩
    refine hK.out _ _ (bthen hHeld hb3) (fun hHeld' => ?_)
    clear hK K hHeld
    have hHeld := hHeld'
    clear hHeld'
    try simp only [Act.put, List.setIfInBounds_toArray, List.set_cons_zero, List.set_cons_succ]
    refine wpAnyH_ready (rs := [5]) (by kernel_rfl) (by simp) ?_
    refine AllReadyH.cons (op_at rfl) (fun K hK => ?_) AllReadyH.nil
    go_simp
    refine (newTable_any s a2 P.length c2 a3 S.length c3 _).mono ?_
    rintro e w4 ⟨⟨T, rfl, hT⟩, hb4⟩
    refine hK.out _ _ (bthen hHeld hb4) (fun hHeld' => ?_)
    clear hK K hHeld
    have hHeld := hHeld'
    clear hHeld'
    try simp only [Act.put, List.setIfInBounds_toArray, List.set_cons_zero, List.set_cons_succ]
    refine wpAnyH_take (i := 6) (v := .pointer (some ⟨T, 0, none⟩)) (op_at rfl) (by kernel_rfl) (by kernel_rfl) (by kernel_rfl) (fun _ _ _ h => h) (Or.inl ⟨by rfl, fun w hSw => rfl⟩) hHeld ?_
    simp only [Act.put, List.setIfInBounds_toArray, List.set_cons_zero, List.set_cons_succ]
    refine wpAnyH_done (by kernel_rfl) ?_ _
    have hTab : TabL w4 T s P S a2 c2 a3 c3 := ⟨hT, (r2.kept hb3).kept hb4, r3.kept hb4, h1.lt, h2.lt, k3, by omega⟩
    clear hT r2 r3 hb2 hb3 hb4
    have hA4 := hA1.kept hHeld
    have hC4 := hC1.kept hHeld
    have hB4 := bthen hB1 hHeld
    have p1 := q1.kept hHeld
    have p2 := q2.kept hHeld
    clear hA1 hC1 hB1 hHeld q1 q2
    go_wp2_with fail
    refine (unsettled_any T s hs P S a2 c2 a3 c3 _ hTab).mono ?_
    rintro e w5 ⟨⟨v5, rfl, o5⟩, hb5⟩
    rw [uns_model s hs P S h1.lt h2.lt k3] at o5
    have i5 := ISeq.of_own o5
    have hA5 := hA4.kept hb5
    have hC5 := hC4.kept hb5
    have hB5 := bthen hB4 hb5
    have n1 := p1.kept hb5
    have n2 := p2.kept hb5
    clear hA4 hC4 hB4 p1 p2 o5 hTab hb5
    go_wp2
    refine wp_region_held_drew (S := fun w' => Below w5.heap.size w5 w') (by kernel_rfl) (below_drew_self w5) (fun hHeld => ?_)
    refine wpAnyH_take (i := 0) (v := .agg (bs s)) (op_at rfl) (by kernel_rfl) (by kernel_rfl) (by kernel_rfl) (fun _ _ _ h => h) (yld (by rfl) 22 _ rfl .a w.heap.size rfl s 22 (fun _ h => hA5.kept h)) hHeld ?_
    simp only [Act.put, List.setIfInBounds_toArray, List.set_cons_zero, List.set_cons_succ]
    refine wpAnyH_take (i := 1) (v := .agg (bs c)) (op_at rfl) (by kernel_rfl) (by kernel_rfl) (by kernel_rfl) (fun _ _ _ h => h) (yld (by rfl) 22 _ rfl .a (w.heap.size + 1) rfl c 22 (fun _ h => hC5.kept h)) hHeld ?_
    simp only [Act.put, List.setIfInBounds_toArray, List.set_cons_zero, List.set_cons_succ]
    refine wpAnyH_take (i := 3) (v := .slice pa P.length pc) (op_at rfl) (by kernel_rfl) (by kernel_rfl) (by kernel_rfl) (fun _ _ _ h => h) (Or.inl ⟨by rfl, fun w hSw => rfl⟩) hHeld ?_
    simp only [Act.put, List.setIfInBounds_toArray, List.set_cons_zero, List.set_cons_succ]
    refine wpAnyH_take (i := 4) (v := .agg (bs c)) (op_at rfl) (by kernel_rfl) (by kernel_rfl) (by kernel_rfl) (fun _ _ _ h => h) (yld (by rfl) 22 _ rfl .a (w.heap.size + 1) rfl c 22 (fun _ h => hC5.kept h)) hHeld ?_
    simp only [Act.put, List.setIfInBounds_toArray, List.set_cons_zero, List.set_cons_succ]
    refine wpAnyH_take (i := 6) (v := .slice sa S.length sc) (op_at rfl) (by kernel_rfl) (by kernel_rfl) (by kernel_rfl) (fun _ _ _ h => h) (Or.inl ⟨by rfl, fun w hSw => rfl⟩) hHeld ?_
    simp only [Act.put, List.setIfInBounds_toArray, List.set_cons_zero, List.set_cons_succ]
    refine wpAnyH_take (i := 7) (v := .agg (bs c)) (op_at rfl) (by kernel_rfl) (by kernel_rfl) (by kernel_rfl) (fun _ _ _ h => h) (yld (by rfl) 22 _ rfl .a (w.heap.size + 1) rfl c 22 (fun _ h => hC5.kept h)) hHeld ?_
    simp only [Act.put, List.setIfInBounds_toArray, List.set_cons_zero, List.set_cons_succ]
    refine wpAnyH_ready (rs := [2]) (by kernel_rfl) (by simp) ?_
    refine AllReadyH.cons (op_at rfl) (fun K hK => ?_) AllReadyH.nil
    go_simp
    refine (add_any s c _).mono ?_
    rintro e w6 ⟨rfl, hb6⟩
    refine hK.out _ _ (bthen hHeld hb6) (fun hHeld' => ?_)
    clear hK K hHeld
    have hHeld := hHeld'
    clear hHeld'
    try simp only [Act.put, List.setIfInBounds_toArray, List.set_cons_zero, List.set_cons_succ]
    refine wpAnyH_ready (rs := [5]) (by kernel_rfl) (by simp) ?_
    refine AllReadyH.cons (op_at rfl) (fun K hK => ?_) AllReadyH.nil
    go_simp
    refine (shifted_any pa pc P c h1.nil (by omega) _ (n1.kept hHeld)).mono ?_
    rintro e w7 ⟨⟨a7, c7, rfl, r7⟩, hb7⟩
    refine hK.out _ _ (bthen hHeld hb7) (fun hHeld' => ?_)
    clear hK K hHeld
    have hHeld := hHeld'
    clear hHeld'
    try simp only [Act.put, List.setIfInBounds_toArray, List.set_cons_zero, List.set_cons_succ]
    refine wpAnyH_ready (rs := [8]) (by kernel_rfl) (by simp) ?_
    refine AllReadyH.cons (op_at rfl) (fun K hK => ?_) AllReadyH.nil
    go_simp
    refine (shifted_any sa sc S c h2.nil (by omega) _ (n2.kept hHeld)).mono ?_
    rintro e w8 ⟨⟨a8, c8, rfl, r8⟩, hb8⟩
    refine hK.out _ _ (bthen hHeld hb8) (fun hHeld' => ?_)
    clear hK K hHeld
    have hHeld := hHeld'
    clear hHeld'
    try simp only [Act.put, List.setIfInBounds_toArray, List.set_cons_zero, List.set_cons_succ]
    refine wpAnyH_ready (rs := [9]) (by kernel_rfl) (by simp) ?_
    refine AllReadyH.cons (op_at rfl) (fun K hK => ?_) AllReadyH.nil
    go_simp
    refine (newTable_any (add s c) a7 P.length c7 a8 S.length c8 _).mono ?_
    rintro e w9 ⟨⟨T2, rfl, hT2⟩, hb9⟩
    refine hK.out _ _ (bthen hHeld hb9) (fun hHeld' => ?_)
    clear hK K hHeld
    have hHeld := hHeld'
    clear hHeld'
    try simp only [Act.put, List.setIfInBounds_toArray, List.set_cons_zero, List.set_cons_succ]
    refine wpAnyH_take (i := 10) (v := .pointer (some ⟨T2, 0, none⟩)) (op_at rfl) (by kernel_rfl) (by kernel_rfl) (by kernel_rfl) (fun _ _ _ h => h) (Or.inl ⟨by rfl, fun w hSw => rfl⟩) hHeld ?_
    simp only [Act.put, List.setIfInBounds_toArray, List.set_cons_zero, List.set_cons_succ]
    refine wpAnyH_done (by kernel_rfl) ?_ _
    have hlm1 : (P.map (add · c)).length = P.length := by simp
    have hlm2 : (S.map (add · c)).length = S.length := by simp
    have lt1 : ∀ x ∈ P.map (add · c), x < M128 := fun x hx => by
      obtain ⟨y, _, rfl⟩ := List.mem_map.1 hx
      exact add_lt _ _
    have lt2 : ∀ x ∈ S.map (add · c), x < M128 := fun x hx => by
      obtain ⟨y, _, rfl⟩ := List.mem_map.1 hx
      exact add_lt _ _
    have hTab : TabL w9 T2 (add s c) (P.map (add · c)) (S.map (add · c)) a7 c7 a8 c8 := ⟨by rw [hlm1, hlm2]; exact hT2, (r7.kept hb8).kept hb9, r8.kept hb9, lt1, lt2, by rw [hlm1, hlm2]; exact k3, by rw [hlm2]; omega⟩
    have hle' : (S.map (add · c)).length ≤ (P.map (add · c)).length := by rw [hlm1, hlm2]; exact k3
    clear hT2 r7 r8 hb6 hb7 hb8 hb9
    have hA9 := hA5.kept hHeld
    have hB9 := bthen hB5 hHeld
    have m1 := n1.kept hHeld
    have m2 := n2.kept hHeld
    have i9 := i5.kept hHeld
    clear hA5 hC5 hB5 hHeld n1 n2 i5 hlm1 hlm2
    go_wp2_with fail
    refine (unsettled_any T2 (add s c) (add_lt _ _) _ _ a7 c7 a8 c8 _ hTab).mono ?_
    rintro e w10 ⟨⟨v10, rfl, o10⟩, hb10⟩
    rw [uns_model (add s c) (add_lt _ _) _ _ lt1 lt2 hle', modL_turn s c hs hc P S h1.lt h2.lt k3] at o10
    have j10 := ISeq.of_own o10
    have hA10 := hA9.kept hb10
    have hB10 := bthen hB9 hb10
    have l1 := m1.kept hb10
    have l2 := m2.kept hb10
    have i10 := i9.kept hb10
    clear hA9 hB9 m1 m2 i9 o10 hTab lt1 lt2 hle' hb10
    go_wp2_with (first | (refine wpList_ld (by rfl) 22 _ (by rfl) .a w.heap.size (by rfl) 22 s (by exact hA10) ?_))
    refine (model_any s hs P S pa pc sa sc h1.lt h2.lt k3 (by omega) _ l1 l2).mono ?_
    rintro e w11 ⟨⟨v11, rfl, o11⟩, hb11⟩
    have z11 := ISeq.of_own o11
    have i11 := i10.kept hb11
    have j11 := j10.kept hb11
    have hB11 := bthen hB10 hb11
    have hlen : (modL s P S).length ≤ 2 ^ 20 := by
      rw [← uns_model s hs P S h1.lt h2.lt k3]
      exact Nat.le_trans (unsL_le _ _) (by decide)
    clear hA10 hB10 l1 l2 i10 j10 o11 hb11
    generalize modL s P S = L at *
    go_wp2_with fail
    refine (same_any v5 v11 L hlen _ i11 z11).mono ?_
    rintro e w12 ⟨rfl, hb12⟩
    go_wp2_with fail
    refine (same_any v10 v11 L hlen _ (j11.kept hb12) (z11.kept hb12)).mono ?_
    rintro e w13 ⟨rfl, hb13⟩
    go_wp2
    go_ret
    exact ⟨rfl, bthen (bthen hB11 hb12) hb13⟩
end Go.Proofs.Qxb6631297a
