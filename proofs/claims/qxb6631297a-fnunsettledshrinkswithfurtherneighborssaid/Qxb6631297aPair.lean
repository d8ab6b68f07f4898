/-
  The second law's bound on lengths, subsetInts and furtherPairPremise, WALKED.
-/
import Derived.Test.Qxb6631297aInts
namespace Go.Proofs.Qxb6631297a
open Go.RowKit
set_option linter.unusedSimpArgs false
set_option linter.unusedVariables false
set_option maxRecDepth 100000 in
set_option maxHeartbeats 800000 in
theorem bytes2_any (s c c2 : Nat) (pa : Option Addr) (pn pc : Nat) (sa : Option Addr) (sn sc : Nat) (hp : pn ≤ maxLen) (hs : sn ≤ maxLen) (w : World) :
    Calls Try.prog 13 #[.agg (bs s), .slice pa pn pc, .slice sa sn sc, .agg (bs c), .agg (bs c2)] w fun e w' => IsB e ∧ Below w.heap.size w w' := by
  unfold maxLen at hp hs
  have hB := (((Below.refl w.heap.size w).alloc (Nat.le_refl _) (.cells (bs s) 22)).alloc (by simp) (.cells (bs c) 22)).alloc (by simp; omega) (.cells (bs c2) 22)
  by_cases h1 : pn ≤ 1048576
  · go_enter Try.func13, Try.ntmps13
    go_wp2
    go_loop [11, 12] (fun z i => ∃ (k : Nat) (n : Int), k ≤ pn ∧ i = .int .i64 (k : Int) ∧ z = .int .i64 n ∧ 0 ≤ n ∧ n ≤ 1048576) (fun _ i => pn - (intOf i).toNat)
    case atStart => exact ⟨0, pn, Nat.zero_le _, rfl, rfl, by omega, by omega⟩
    case round =>
      obtain ⟨k, n, hk, rfl, rfl, hn0, hn⟩ := hrel
      by_cases hlt : k < pn
      · by_cases hz : n + 16 ≤ 1048576
        · go_upto_block 1 with fail
          refine wp_block ?_
          refine wp_seq_k fun K hK => ?_
          refine wp_cond_false rfl ?_
          go_wp2
          go_round
          case rel => exact ⟨k + 1, n + 16, by omega, by go_num, rfl, by omega, hz⟩
          case measure => simp [intOf] <;> omega
        · go_upto_block 1 with fail
          refine wp_block ?_
          refine wp_seq_k fun K hK => ?_
          refine wp_cond_false rfl ?_
          go_wp2
          go_ret
          exact ⟨⟨_, rfl⟩, hB⟩
      · by_cases h2 : sn ≤ 1048576
        · by_cases hz : n + sn ≤ 1048576
          · go_wp2
            go_loop [11, 13] (fun z i => ∃ (k : Nat) (n : Int), k ≤ sn ∧ i = .int .i64 (k : Int) ∧ z = .int .i64 n ∧ 0 ≤ n ∧ n ≤ 1048576) (fun _ i => sn - (intOf i).toNat)
            case atStart => exact ⟨0, n + sn, Nat.zero_le _, rfl, rfl, by omega, by omega⟩
            case round =>
              obtain ⟨k2, n2, hk2, rfl, rfl, hn20, hn2⟩ := hrel
              by_cases hlt2 : k2 < sn
              · by_cases hz2 : n2 + 16 ≤ 1048576
                · go_upto_block 3 with fail
                  refine wp_block ?_
                  refine wp_seq_k fun K hK => ?_
                  refine wp_cond_false rfl ?_
                  go_wp2
                  go_round
                  case rel => exact ⟨k2 + 1, n2 + 16, by omega, by go_num, rfl, by omega, hz2⟩
                  case measure => simp [intOf] <;> omega
                · go_upto_block 3 with fail
                  refine wp_block ?_
                  refine wp_seq_k fun K hK => ?_
                  refine wp_cond_false rfl ?_
                  go_wp2
                  go_ret
                  exact ⟨⟨_, rfl⟩, hB⟩
              · go_wp2
                go_ret
                exact ⟨⟨_, rfl⟩, hB⟩
          · go_wp2
            go_ret
            exact ⟨⟨_, rfl⟩, hB⟩
        · go_wp2
          go_ret
          exact ⟨⟨_, rfl⟩, hB⟩
  · go_enter Try.func13, Try.ntmps13
    go_wp2
    go_ret
    exact ⟨⟨_, rfl⟩, hB⟩

set_option maxHeartbeats 800000 in
theorem subset_any (v1 v2 : Value) (A B : List Nat) (hla : A.length ≤ 2 ^ 20) (hlb : B.length ≤ 2 ^ 20) (hsub : ∀ n ∈ A, n ∈ B) (w : World) (h1 : ISeq w v1 A) (h2 : ISeq w v2 B) :
    Calls Try.prog 15 #[v1, v2] w fun e w' => e = .returned (.bool true) ∧ Below w.heap.size w w' := by
  obtain ⟨a1, cap1, rfl, r1⟩ := h1
  obtain ⟨a2, cap2, rfl, r2⟩ := h2
  have HS : Hid _ := hsub
  clear hsub
  go_enter Try.func15, Try.ntmps15
  go_wp2
  go_loopw [5] (fun i wr => ∃ k : Nat, k ≤ A.length ∧ i = .int .i64 (k : Int) ∧ Below w.heap.size w wr) (fun i _ => A.length - (intOf i).toNat)
  case atStart => exact ⟨0, Nat.zero_le _, rfl, Below.refl _ _⟩
  case round =>
    obtain ⟨k, hk, rfl, hb⟩ := hrel
    by_cases hlt : k < A.length
    · obtain ⟨n, hn⟩ : ∃ n, A[k]? = some n := ⟨_, List.getElem?_eq_getElem hlt⟩
      have hA : A ≠ [] := by rintro rfl; simp at hlt
      obtain ⟨b1, o1, rfl, q1⟩ := r1.resolve_left hA
      have k1 := q1 k n hn
      have hmem := HS.out n (List.mem_of_getElem? hn)
      obtain ⟨j0, hj0⟩ := List.getElem?_of_mem hmem
      have hj0l := (List.getElem?_eq_some_iff.1 hj0).1
      have hB : B ≠ [] := by rintro rfl; simp at hj0l
      obtain ⟨b2, o2, rfl, q2⟩ := r2.resolve_left hB
      have HQ : Hid _ := q2
      have HJ : Hid _ := hj0
      have hkI : (k : Int) < (A.length : Int) := by omega
      clear hn hA hB q1 q2 r1 r2 hmem hj0
      go_wp2
      go_loopw [6, 7] (fun f j wr2 => ∃ m : Nat, m ≤ B.length ∧ j = .int .i64 (m : Int) ∧ (∃ b : Bool, f = .bool b ∧ (j0 < m → b = true)) ∧ Below w.heap.size w wr2) (fun _ j _ => B.length - (intOf j).toNat)
      case atStart => exact ⟨0, Nat.zero_le _, rfl, ⟨false, rfl, fun h => by omega⟩, hb⟩
      case round =>
        clear hb
        obtain ⟨m, hm, rfl, ⟨b, rfl, hf⟩, hb⟩ := hrel
        have HF : Hid _ := hf
        clear hf
        by_cases hlt2 : m < B.length
        · obtain ⟨y, hy⟩ : ∃ y, B[m]? = some y := ⟨_, List.getElem?_eq_getElem hlt2⟩
          have k2 := HQ.out m y hy
          have c1 : wr.cell? ⟨b1, o1 + k, none⟩ = some (.int .i64 (n : Int)) := by rw [hb.cell (p := ⟨b1, o1 + k, none⟩) (block_lt_of_cell k1)]; exact k1
          have c2 : wr.cell? ⟨b2, o2 + m, none⟩ = some (.int .i64 (y : Int)) := by rw [hb.cell (p := ⟨b2, o2 + m, none⟩) (block_lt_of_cell k2)]; exact k2
          have hmI : (m : Int) < (B.length : Int) := by omega
          have HY : Hid _ := hy
          clear hy k2
          by_cases he : n = y
          · have hq : (((n : Int)) == (y : Int)) = true := by rw [beq_iff_eq]; omega
            clear he
            go_wp2
            go_quiet (fail)
            go_wp2
            go_roundw
            case rel => exact ⟨m + 1, by omega, by go_num, ⟨true, rfl, fun _ => rfl⟩, below_drewN hb _⟩
            case measure => simp [intOf] <;> omega
          · have hq : (((n : Int)) == (y : Int)) = false := beq_eq_false_iff_ne.2 (by omega)
            have HE : Hid _ := he
            clear he
            go_wp2
            go_quiet (fail)
            go_wp2
            go_roundw
            case rel => exact ⟨m + 1, by omega, by go_num, ⟨b, rfl, fun h => by
              by_cases e : j0 = m
              · subst e
                have := HJ.out.symm.trans HY.out
                simp at this
                exact absurd this HE.out
              · exact HF.out (by omega)⟩, below_drewN hb _⟩
            case measure => simp [intOf] <;> omega
        · have hbt : b = true := HF.out (by omega)
          subst hbt
          go_wp2
          go_roundw
          case rel => exact ⟨k + 1, by omega, by go_num, hb⟩
          case measure => simp [intOf] <;> omega
    · go_wp2
      go_ret
      exact ⟨rfl, hb⟩
theorem alloc_put (w : World) (t g m : Nat) (hg : w.heap.size = g) : (w.alloc (.cells (bs 0) t)).setRow g (bs m) = w.alloc (.cells (bs m) t) := by
  subst hg
  exact World.setRow_alloc_new w (bs 0) (bs m) t
/-- A guarded load whose guard says yes. -/
theorem wpList_ldg {ops : Array Oper} {rest : List Oper} {o : Oper} {a : Act} {w : World} {Q : Exit → Act → World → Prop} (hwt : Region.wanted o (yielded ops a.tmps) = true) (t : TypeId) (x : Operand) (ho : o.op = .load t x) (ht : IdT t)
    (g : Nat) (hx : a.eval x = .pointer (some ⟨g, 0, none⟩)) (t' n : Nat) (hA : At w t' g n)
    (h : wpList Try.prog ops Q rest (a.put o.dst (.agg (bs n))) w) : wpList Try.prog ops Q (o :: rest) a w := by
  rw [wpList, if_pos hwt]
  exact .inl (wp_load_row t x ho g hx t' (bs n) (0, 0) _ hA ht.under rfl (ht.size n) h)
structure SP (w : World) (s p2 s2 p q : Nat) (w' : World) : Prop where
  self : At w' 22 w.heap.size s
  p2 : At w' 22 (w.heap.size + 1) p2
  s2 : At w' 22 (w.heap.size + 1 + 1) s2
  p : At w' 22 (w.heap.size + 1 + 1 + 1) p
  q : At w' 22 (w.heap.size + 1 + 1 + 1 + 1) q
  below : Below w.heap.size w w'
theorem SP.then {w : World} {s p2 s2 p q : Nat} {w1 w2 : World} (h : SP w s p2 s2 p q w1) (hb : Below w1.heap.size w1 w2) : SP w s p2 s2 p q w2 :=
  ⟨h.self.kept hb, h.p2.kept hb, h.s2.kept hb, h.p.kept hb, h.q.kept hb, bthen h.below hb⟩
theorem SP.alloc {w : World} {s p2 s2 p q : Nat} {w1 : World} (h : SP w s p2 s2 p q w1) (o : Obj) : SP w s p2 s2 p q (w1.alloc o) := h.then ((Below.refl _ _).alloc (Nat.le_refl _) o)
/-- A further pair: 'dS <= dS2 < fP2 <= fP'. -/
def fppB (d d2 f2 f : Nat) : Bool := decide (d ≤ d2) && decide (d2 < f2) && decide (f2 ≤ f)
def fpp (S : List Nat) (p q s p2 s2 : Nat) : Bool := !(S.contains p) && fppB (sub q s) (sub s2 s) (sub p2 s) (sub p s)
theorem cmp_lt0 (a b : Nat) : (cmp a b < 0) ↔ a < b := by
  unfold cmp
  repeat' split
  all_goals omega

set_option maxHeartbeats 1600000 in
theorem pair_any (s p2 s2 : Nat) (hs : s < M128) (hp2 : p2 < M128) (hs2 : s2 < M128) (pa : Option Addr) (pn pc : Nat) (sa : Option Addr) (m sc : Nat) (P S : List Nat) (p q : Nat) (hP : ∀ n ∈ P, n < M128) (hS : ∀ n ∈ S, n < M128)
    (hlS : S.length = m + 1) (hmb : m ≤ 2 ^ 20) (hpn : m < pn) (hp : P[m]? = some p) (hq : S[m]? = some q) (w : World) (h1 : Seq w pa P) (h2 : Seq w sa S) :
    Calls Try.prog 14 #[.agg (bs s), .slice pa pn pc, .slice sa (m + 1) sc, .agg (bs p2), .agg (bs s2)] w fun e w' => e = .returned (.bool (fpp S p q s p2 s2)) ∧ Below w.heap.size w w' := by
  obtain ⟨pb, po, rfl⟩ := h1.addr hp
  obtain ⟨sb, so, rfl⟩ := h2.addr hq
  have hpM := hP p (List.mem_of_getElem? hp)
  have hqM := hS q (List.mem_of_getElem? hq)
  have HP : Hid _ := hp
  have HQ : Hid _ := hq
  have HL : Hid _ := hlS
  have hi1 : (m : Int) < (pn : Int) := by omega
  have hi2 : (m : Int) < (m : Int) + 1 := by omega
  have hw64 : IntKind.i64.wrap (m : Int) = (m : Int) := wrap_i64 (by omega) (by omega)
  have hB3 := (((Below.refl w.heap.size w).alloc (Nat.le_refl _) (.cells (bs s) 22)).alloc (by simp) (.cells (bs p2) 22)).alloc (by simp; omega) (.cells (bs s2) 22)
  have hB4 := hB3.alloc (by simp; omega) (.cells (bs p) 22)
  have hB5 := hB4.alloc (by simp; omega) (.cells (bs q) 22)
  have hrp := range_kept (h1.range hp) hB3
  have hrq := range_kept (h2.range hq) hB4
  have hX0 := At.new' (((w.alloc (.cells (bs s) 22)).alloc (.cells (bs p2) 22)).alloc (.cells (bs s2) 22)) 22 0 (g := w.heap.size + 1 + 1 + 1) (by simp)
  have hY0 := At.new' ((((w.alloc (.cells (bs s) 22)).alloc (.cells (bs p2) 22)).alloc (.cells (bs s2) 22)).alloc (.cells (bs p) 22)) 22 0 (g := w.heap.size + 1 + 1 + 1 + 1) (by simp)
  have hSP : SP w s p2 s2 p q (((((w.alloc (.cells (bs s) 22)).alloc (.cells (bs p2) 22)).alloc (.cells (bs s2) 22)).alloc (.cells (bs p) 22)).alloc (.cells (bs q) 22)) :=
    ⟨((((At.new w 22 s).alloc _).alloc _).alloc _).alloc _,
     (((At.new' (w.alloc (.cells (bs s) 22)) 22 p2 (by simp)).alloc _).alloc _).alloc _,
     ((At.new' ((w.alloc (.cells (bs s) 22)).alloc (.cells (bs p2) 22)) 22 s2 (by simp)).alloc _).alloc _,
     (At.new' (((w.alloc (.cells (bs s) 22)).alloc (.cells (bs p2) 22)).alloc (.cells (bs s2) 22)) 22 p (by simp)).alloc _,
     At.new' _ 22 q (by simp), hB5⟩
  clear hp hq hlS hB3 hB4 hB5
  go_enter Try.func14, Try.ntmps14
  go_wp2_with (first | (refine wpList_lm (by rfl) 22 _ (by rfl) .a pb (po + m * 16) (by rfl) p (by exact hrp) ?_) | (refine wpList_lm (by rfl) 22 _ (by rfl) .a sb (so + m * 16) (by rfl) q (by exact hrq) ?_)  | (refine wpList_al' (by rfl) 22 (by rfl) .a (w.heap.size + 1 + 1 + 1) ?_ ?_; focus (simp; done)) | (refine wpList_al' (by rfl) 22 (by rfl) .a (w.heap.size + 1 + 1 + 1 + 1) ?_ ?_; focus (simp; done))  | (refine wpList_st (by rfl) 22 _ _ (by rfl) .a (w.heap.size + 1 + 1 + 1) p (by rfl) (by rfl) 22 0 (by exact hX0) ?_; rw [alloc_put _ _ _ _ (by simp)])  | (refine wpList_st (by rfl) 22 _ _ (by rfl) .a (w.heap.size + 1 + 1 + 1 + 1) q (by rfl) (by rfl) 22 0 (by exact hY0) ?_; rw [alloc_put _ _ _ _ (by simp)])  | (refine wpList_ld (by rfl) 22 _ (by rfl) .a (w.heap.size + 1 + 1 + 1) (by rfl) 22 p (by exact hSP.p) ?_))
  have hcont : ∀ W, Seq W (some ⟨sb, so, none⟩) S → Calls Try.prog 18 #[.slice (some ⟨sb, so, none⟩) (m + 1) sc, .agg (bs p)] W fun e w' => e = .returned (.bool (S.contains p)) ∧ Below W.heap.size W w' := fun W hW => by
    have := containsID_any (some ⟨sb, so, none⟩) sc S p hpM hS (by have := HL.out; omega) W hW
    rwa [HL.out] at this
  refine (hcont _ (h2.kept hSP.below)).mono ?_
  rintro e w1 ⟨rfl, hb1⟩
  have hS1 := hSP.then hb1
  clear hcont hrp hrq hX0 hY0 hSP hb1
  cases hc : S.contains p
  case true =>
    have HF : Hid (fpp S p q s p2 s2 = false) := show fpp S p q s p2 s2 = false by unfold fpp; rw [hc, Bool.not_true, Bool.false_and]
    clear hc
    go_wp2
    go_ret
    exact ⟨ret_bool HF.out.symm, hS1.below⟩
  case false =>
    have HF : Hid (fpp S p q s p2 s2 = fppB (sub q s) (sub s2 s) (sub p2 s) (sub p s)) := show fpp S p q s p2 s2 = fppB (sub q s) (sub s2 s) (sub p2 s) (sub p s) by unfold fpp; rw [hc, Bool.not_false, Bool.true_and]
    clear hc
    have hd := sub_lt q s
    have hf := sub_lt p s
    have hd2 := sub_lt s2 s
    have hf2 := sub_lt p2 s
    have c1 := fun W => sub_any q s hs W
    have c2 := fun W => sub_any p s hs W
    have c3 := fun W => sub_any s2 s hs W
    have c4 := fun W => sub_any p2 s hs W
    generalize sub q s = d at *
    generalize sub p s = f at *
    generalize sub s2 s = d2 at *
    generalize sub p2 s = f2 at *
    have C1 : Hid _ := c1
    have C2 : Hid _ := c2
    have C3 : Hid _ := c3
    have C4 : Hid _ := c4
    clear c1 c2 c3 c4
    go_wp2_with (first | (refine wpList_ld (by rfl) 22 _ (by rfl) .a (w.heap.size + 1 + 1 + 1 + 1) (by rfl) 22 q (by exact hS1.q) ?_) | (refine wpList_ld (by rfl) 22 _ (by rfl) .a w.heap.size (by rfl) 22 s (by exact hS1.self) ?_))
    refine (C1.out _).mono ?_
    rintro e w2 ⟨rfl, hb2⟩
    have hS2 := (hS1.then hb2).alloc (.cells (bs d) 22)
    have k0 := At.new w2 22 0
    have kd2 := At.new w2 22 d
    clear hS1 hb2
    go_wp2_with (first | (refine wpList_al' (by rfl) 22 (by rfl) .a w2.heap.size (by rfl) ?_) | (refine wpList_st (by rfl) 22 _ _ (by rfl) .a w2.heap.size d (by rfl) (by rfl) 22 0 (by exact k0) ?_; rw [alloc_put _ _ _ _ (by rfl)]) | (refine wpList_ld (by rfl) 22 _ (by rfl) .a (w.heap.size + 1 + 1 + 1) (by rfl) 22 p (by exact hS2.p) ?_) | (refine wpList_ld (by rfl) 22 _ (by rfl) .a w.heap.size (by rfl) 22 s (by exact hS2.self) ?_))
    refine (C2.out _).mono ?_
    rintro e w3 ⟨rfl, hb3⟩
    have hS3 := (hS2.then hb3).alloc (.cells (bs f) 22)
    have kd3 := (kd2.kept hb3).alloc (.cells (bs f) 22)
    have k1 := At.new w3 22 0
    have kf3 := At.new w3 22 f
    clear hS2 hb3 kd2 k0
    go_wp2_with (first | (refine wpList_al' (by rfl) 22 (by rfl) .a w3.heap.size (by rfl) ?_) | (refine wpList_st (by rfl) 22 _ _ (by rfl) .a w3.heap.size f (by rfl) (by rfl) 22 0 (by exact k1) ?_; rw [alloc_put _ _ _ _ (by rfl)]) | (refine wpList_ld (by rfl) 22 _ (by rfl) .a (w.heap.size + 1 + 1) (by rfl) 22 s2 (by exact hS3.s2) ?_) | (refine wpList_ld (by rfl) 22 _ (by rfl) .a w.heap.size (by rfl) 22 s (by exact hS3.self) ?_))
    refine (C3.out _).mono ?_
    rintro e w4 ⟨rfl, hb4⟩
    have hS4 := (hS3.then hb4).alloc (.cells (bs d2) 22)
    have kd4 := (kd3.kept hb4).alloc (.cells (bs d2) 22)
    have kf4 := (kf3.kept hb4).alloc (.cells (bs d2) 22)
    have k2 := At.new w4 22 0
    have ke4 := At.new w4 22 d2
    clear hS3 hb4 kd3 kf3 k1
    go_wp2_with (first | (refine wpList_al' (by rfl) 22 (by rfl) .a w4.heap.size (by rfl) ?_) | (refine wpList_st (by rfl) 22 _ _ (by rfl) .a w4.heap.size d2 (by rfl) (by rfl) 22 0 (by exact k2) ?_; rw [alloc_put _ _ _ _ (by rfl)]) | (refine wpList_ld (by rfl) 22 _ (by rfl) .a (w.heap.size + 1) (by rfl) 22 p2 (by exact hS4.p2) ?_) | (refine wpList_ld (by rfl) 22 _ (by rfl) .a w.heap.size (by rfl) 22 s (by exact hS4.self) ?_))
    refine (C4.out _).mono ?_
    rintro e w5 ⟨rfl, hb5⟩
    have hS5 := (hS4.then hb5).alloc (.cells (bs f2) 22)
    have kd5 := (kd4.kept hb5).alloc (.cells (bs f2) 22)
    have kf5 := (kf4.kept hb5).alloc (.cells (bs f2) 22)
    have ke5 := (ke4.kept hb5).alloc (.cells (bs f2) 22)
    have k3 := At.new w5 22 0
    have kg5 := At.new w5 22 f2
    have hB5 := hS5.below
    clear hS4 hb5 kd4 kf4 ke4 k2 hS5
    go_wp2_with (first | (refine wpList_al' (by rfl) 22 (by rfl) .a w5.heap.size (by rfl) ?_) | (refine wpList_st (by rfl) 22 _ _ (by rfl) .a w5.heap.size f2 (by rfl) (by rfl) 22 0 (by exact k3) ?_; rw [alloc_put _ _ _ _ (by rfl)]) | (refine wpList_ld (by rfl) 22 _ (by rfl) .a w2.heap.size (by rfl) 22 d (by exact kd5) ?_) | (refine wpList_ld (by rfl) 22 _ (by rfl) .a w4.heap.size (by rfl) 22 d2 (by exact ke5) ?_))
    refine (cmp_any d d2 hd hd2 _).mono ?_
    rintro e w6 ⟨rfl, hb6⟩
    have ke6 := ke5.kept hb6
    have kf6 := kf5.kept hb6
    have kg6 := kg5.kept hb6
    have hB6 := bthen hB5 hb6
    clear kd5 ke5 kf5 kg5 k3 hB5 hb6
    have T : Hid (d ≤ d2 ∨ d2 < d) := show d ≤ d2 ∨ d2 < d by omega
    rcases T.out with t1 | t1
    case inr =>
      have hz : decide (cmp d d2 ≤ 0) = false := by rw [decide_eq_false_iff_not, cmp_le]; omega
      have HF2 : Hid (fppB d d2 f2 f = false) := show fppB d d2 f2 f = false by unfold fppB; rw [decide_eq_false (by omega), Bool.false_and, Bool.false_and]
      go_wp2
      go_ret
      exact ⟨ret_bool (by rw [HF.out, HF2.out]), hB6⟩
    case inl =>
      have hz : decide (cmp d d2 ≤ 0) = true := by rw [decide_eq_true_iff, cmp_le]; exact t1
      go_wp2_with (first | (refine wpList_ldg (by rfl) 22 _ (by rfl) .a w4.heap.size (by rfl) 22 d2 (by exact ke6) ?_) | (refine wpList_ldg (by rfl) 22 _ (by rfl) .a w5.heap.size (by rfl) 22 f2 (by exact kg6) ?_))
      refine (cmp_any d2 f2 hd2 hf2 _).mono ?_
      rintro e w7 ⟨rfl, hb7⟩
      have kf7 := kf6.kept hb7
      have kg7 := kg6.kept hb7
      have hB7 := bthen hB6 hb7
      clear ke6 kf6 kg6 hB6 hb7
      have T2 : Hid (d2 < f2 ∨ f2 ≤ d2) := show d2 < f2 ∨ f2 ≤ d2 by omega
      rcases T2.out with t2 | t2
      case inr =>
        have hz2 : decide (cmp d2 f2 < 0) = false := by rw [decide_eq_false_iff_not, cmp_lt0]; omega
        have HF2 : Hid (fppB d d2 f2 f = false) := show fppB d d2 f2 f = false by unfold fppB; rw [decide_eq_false (p := d2 < f2) (by omega), Bool.and_false, Bool.false_and]
        go_wp2
        go_ret
        exact ⟨ret_bool (by rw [HF.out, HF2.out]), hB7⟩
      case inl =>
        have hz2 : decide (cmp d2 f2 < 0) = true := by rw [decide_eq_true_iff, cmp_lt0]; exact t2
        go_wp2_with (first | (refine wpList_ldg (by rfl) 22 _ (by rfl) .a w3.heap.size (by rfl) 22 f (by exact kf7) ?_) | (refine wpList_ldg (by rfl) 22 _ (by rfl) .a w5.heap.size (by rfl) 22 f2 (by exact kg7) ?_))
        refine (cmp_any f2 f hf2 hf _).mono ?_
        rintro e w8 ⟨rfl, hb8⟩
        have HF2 : Hid (fppB d d2 f2 f = decide (cmp f2 f ≤ 0)) := show fppB d d2 f2 f = decide (cmp f2 f ≤ 0) by
          unfold fppB
          rw [decide_eq_true (p := d ≤ d2) t1, decide_eq_true (p := d2 < f2) t2, Bool.true_and, Bool.true_and, Bool.eq_iff_iff, decide_eq_true_iff, decide_eq_true_iff, cmp_le]
        go_wp2
        go_ret
        exact ⟨ret_bool (by rw [HF.out, HF2.out]), bthen hB7 hb8⟩
end Go.Proofs.Qxb6631297a
