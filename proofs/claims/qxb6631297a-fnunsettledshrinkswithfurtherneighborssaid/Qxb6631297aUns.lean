/-
  chord's (*Table).Unsettled, WALKED.
-/
import Derived.Test.Qxb6631297aCovers
namespace Go.Proofs.Qxb6631297a
open Go.RowKit
set_option linter.unusedSimpArgs false
theorem Try.info3 : (Try.prog.info? 3).map (fun i => (i.zero, i.size, i.bytes)) = some (some (.int .i64 0), 1, 8) := by kernel_rfl
theorem wpList_al' {ops : Array Oper} {rest : List Oper} {o : Oper} {a : Act} {w : World} {Q : Exit → Act → World → Prop} (hgd : o.guard = none) (t : TypeId) (ho : o.op = .alloc t) (ht : IdT t) (g : Nat) (hg : w.heap.size = g)
    (h : wpList Try.prog ops Q rest (a.put o.dst (.pointer (some ⟨g, 0, none⟩))) (w.alloc (.cells (bs 0) t))) : wpList Try.prog ops Q (o :: rest) a w := by
  subst hg
  exact wpList_al hgd t ho ht h
/-- Of 1 .. k those that c does not hold of. -/
def unsL (c : Nat → Bool) : Nat → List Nat
  | 0 => []
  | k + 1 => unsL c k ++ (if c (k + 1) then [] else [k + 1])
def iV (l : List Nat) : List Value := l.map fun n : Nat => Value.int .i64 ((n : Nat) : Int)
theorem unsL_le (c : Nat → Bool) : ∀ k, (unsL c k).length ≤ k
  | 0 => Nat.le_refl _
  | k + 1 => by
    have := unsL_le c k
    rw [unsL, List.length_append]
    split <;> simp <;> omega
/-- The first identifier of finger entry i. -/
def fst (s i : Nat) : Nat := add s (2 ^ (128 - i))
theorem qr (i : Nat) (h1 : 1 ≤ i) (h2 : i ≤ 16) : (128 - i) / 8 < 16 ∧ (128 - i) % 8 < 8 ∧ i + ((128 - i) / 8 * 8 + (128 - i) % 8) = 128 ∧ (128 - i) / 8 * 8 + (128 - i) % 8 = 128 - i := by omega
theorem finger_i (s : Nat) (hs : s < M128) (i : Nat) (x : Int) (hx : x = i) (h1 : 1 ≤ i) (h2 : i ≤ 16) (w : World) :
    Calls Try.prog 16 #[.agg (bs s), .int .i64 x] w fun e w' => (∃ m, e = .returned (.tuple #[.agg (bs (fst s i)), .agg (bs m)])) ∧ Below w.heap.size w w' := by
  obtain ⟨a, b, c, d⟩ := qr i h1 h2
  have := finger_any s hs i _ _ a b c w
  rw [d] at this
  rw [hx]
  exact this

theorem below_grown {w w' : World} (h : Below w.heap.size w w') : w.grownBy w' none := ⟨h.os, h.tape, h.output, h.size, fun k hk _ => h.block k hk⟩
theorem own_ge {w : World} {base e size : Nat} {v : Value} {n : Nat} {xs : List Value} (h : w.ownsRow base e size v n xs) : ∀ k, v.ownBlock = some k → base ≤ k := by
  intro k hk
  rcases h.2 with ⟨rfl, _⟩ | ⟨g, cap, cur, rfl, hb, _⟩
  · simp [Value.ownBlock] at hk
  · simp [Value.ownBlock] at hk
    omega
set_option maxHeartbeats 800000 in
theorem unsettled_any (T s : Nat) (hs : s < M128) (P S : List Nat) (pa : Option Addr) (pc : Nat) (sa : Option Addr) (sc : Nat) (w : World) (h : TabL w T s P S pa pc sa sc) :
    Calls Try.prog 8 #[.pointer (some ⟨T, 0, none⟩)] w fun e w' =>
      (∃ v, e = .returned v ∧ w'.ownsRow w.heap.size 3 1 v (unsL (fun i => cov P S (fst s i)) 16).length (iV (unsL (fun i => cov P S (fst s i)) 16))) ∧ Below w.heap.size w w' := by
  generalize hc : (fun i => cov P S (fst s i)) = c at *
  have HC : Hid _ := hc
  clear hc
  obtain ⟨i0, hi, hz0, hz1, hz2⟩ := info_parts Try.info3
  go_enter Try.func8, Try.ntmps8
  go_wp2
  go_loopw [3, 4] (fun v i wr => ∃ k : Nat, k ≤ 16 ∧ i = .int .i64 ((k : Int) + 1) ∧ wr.ownsRow w.heap.size 3 1 v (unsL c k).length (iV (unsL c k)) ∧ Below w.heap.size w wr) (fun _ i _ => (17 - intOf i).toNat)
  case atStart => exact ⟨0, Nat.zero_le _, rfl, (World.ownsRow_nil _ _ _ _ : w.ownsRow w.heap.size 3 1 (.slice none 0 0) 0 []), Below.refl _ _⟩
  case round =>
    obtain ⟨k, hk, rfl, hown, hb⟩ := hrel
    have hT := h.kept hb
    by_cases hlt : k < 16
    · have hself := hT.tab.self
      go_wp2_with (first | (refine wpList_lm (by rfl) 27 _ (by rfl) .b T 0 (by rfl) s (by exact hself) ?_))
      refine (finger_i s hs (k + 1) _ (by omega) (by omega) (by omega) _).mono ?_
      rintro e w1 ⟨⟨m, rfl⟩, hb1⟩
      have hf : fst s (k + 1) < M128 := add_lt _ _
      have HF : Hid (c (k + 1) = cov P S (fst s (k + 1))) := by rw [← HC.out]; rfl
      generalize fst s (k + 1) = f at *
      have hB1 := bthen hb hb1
      have hA1 := (At.new w1 27 0).alloc (.cells (bs 0) 27)
      have hA2 := (At.new' (w1.alloc (.cells (bs 0) 27)) 27 0 (g := w1.heap.size + 1) (by simp)).setRow_other w1.heap.size f (by omega)
      have hA3 := (hA1.setRow f).setRow_other (w1.heap.size + 1) m (by omega)
      have hsz := hB1.size
      have hBa := Below.refl w1.heap.size w1
      have hB3 := below_setRow' (below_setRow' ((hBa.alloc (Nat.le_refl _) (.cells (bs 0) 27)).alloc (by simp) (.cells (bs 0) 27)) (Nat.le_refl _) f) (show w1.heap.size ≤ w1.heap.size + 1 by omega) m
      clear hself hBa
      go_wp2_with (first | (refine wpList_al' (by rfl) 27 (by rfl) .b w1.heap.size (by rfl) ?_) | (refine wpList_al' (by rfl) 27 (by rfl) .b (w1.heap.size + 1) (by simp) ?_) | (refine wpList_st (by rfl) 27 _ _ (by rfl) .b w1.heap.size f (by rfl) (by rfl) 27 0 (by exact hA1) ?_) | (refine wpList_st (by rfl) 27 _ _ (by rfl) .b (w1.heap.size + 1) m (by rfl) (by rfl) 27 0 (by exact hA2) ?_) | (refine wpList_ld (by rfl) 27 _ (by rfl) .b w1.heap.size (by rfl) 27 f (by exact hA3) ?_))
      refine (covers_any T s f P S pa pc sa sc hf _ ((hT.kept hb1).kept hB3)).mono ?_
      rintro e w2 ⟨rfl, hb2⟩
      have hB4 := bthen (bthen hB1 hB3) hb2
      rw [← HF.out]
      have hBr : Below wr.heap.size wr w2 := bthen (bthen hb1 hB3) hb2
      have hown2 := hown.kept (below_grown hBr) (Classical.em _)
      have hul := unsL_le c k
      clear hA1 hA2 hA3 hB3 hb2 hb1 hT hown
      cases hck : c (k + 1)
      · have HE : Hid (unsL c (k + 1) = unsL c k ++ [k + 1]) := by rw [unsL, hck]; rfl
        go_wp2_with (first
          | (at_builtin; refine wpList_append_own _ rfl _ _ 30 rfl w.heap.size 3 i0 (.int .i64 0) 1 8 Try.underlying30 hi hz0 hz1 hz2 rfl (by decide) _ _ _ rfl (hown2.alloc _) ⟨w2.heap.size, 0, none⟩ 1 1 [.int .i64 ((k : Int) + 1)] rfl rfl ?c1 ?c2 ?c3 ?c4 ?c5 ?_))
        case c1 =>
          intro j u hj
          match j, hj with
          | 0, hj => simp at hj; subst hj; simp [Addr.add]
        case c2 => intro u hu; simp at hu; subst hu; rfl
        case c3 => unfold maxLen; omega
        case c4 => omega
        case c5 => have := hB4.size; simp; omega
        intro v' w3 hown3 hgrow _
        have hB5 := (hB4.alloc hB4.size (.cells #[.int .i64 ((k : Int) + 1)] 3)).grown hgrow (by have := hB4.size; simp; omega) (own_ge hown2)
        go_wp2
        go_roundw
        case rel => exact ⟨k + 1, by omega, by go_num, by rw [HE.out]; simpa [iV] using hown3, hB5⟩
        case measure => simp [intOf] <;> omega
      · have HE : Hid (unsL c (k + 1) = unsL c k) := show unsL c (k + 1) = unsL c k by rw [unsL, hck, if_pos rfl, List.append_nil]
        go_wp2
        go_roundw
        case rel => exact ⟨k + 1, by omega, by go_num, by rw [HE.out]; exact hown2, hB4⟩
        case measure => simp [intOf] <;> omega
    · obtain rfl : k = 16 := by omega
      go_wp2
      go_ret
      exact ⟨⟨_, rfl, hown⟩, hb⟩
end Go.Proofs.Qxb6631297a
