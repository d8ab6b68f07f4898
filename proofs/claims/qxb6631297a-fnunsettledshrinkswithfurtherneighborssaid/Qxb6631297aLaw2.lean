/-
  THE PLAIN LAW OF THE SECOND STATEMENT: with a further pair the unsettled entries are fewer. No Go in sight.
-/
import Derived.Test.Qxb6631297aLaw
import Derived.Test.Qxb6631297aPair
namespace Go.Proofs.Qxb6631297a

theorem mem_unsL (c : Nat → Bool) (n : Nat) : ∀ k, n ∈ unsL c k ↔ 1 ≤ n ∧ n ≤ k ∧ c n = false
  | 0 => by simp [unsL]; omega
  | k + 1 => by
    rw [unsL, List.mem_append, mem_unsL c n k]
    cases hc : c (k + 1)
    · simp only [Bool.false_eq_true, if_false, List.mem_singleton]
      constructor
      · rintro (⟨a, b, d⟩ | rfl)
        · exact ⟨a, by omega, d⟩
        · exact ⟨by omega, Nat.le_refl _, hc⟩
      · rintro ⟨a, b, d⟩
        by_cases e : n = k + 1
        · exact .inr e
        · exact .inl ⟨a, by omega, d⟩
    · simp only [if_true, List.not_mem_nil, or_false]
      constructor
      · rintro ⟨a, b, d⟩; exact ⟨a, by omega, d⟩
      · rintro ⟨a, b, d⟩
        refine ⟨a, ?_, d⟩
        by_cases e : n = k + 1
        · subst e; rw [hc] at d; cases d
        · omega
theorem unsL_sub {c c' : Nat → Bool} (h : ∀ i, 1 ≤ i → i ≤ 16 → c i = true → c' i = true) : ∀ n ∈ unsL c' 16, n ∈ unsL c 16 := by
  intro n hn
  rw [mem_unsL] at hn ⊢
  refine ⟨hn.1, hn.2.1, ?_⟩
  cases hc : c n
  · rfl
  · have := h n hn.1 hn.2.1 hc
    rw [hn.2.2] at this; cases this
theorem stl_more (d f d2 f2 : Nat) (hd : d < M128) (hf : f < M128) (hd2 : d2 < M128) (hf2 : f2 < M128) (h1 : d ≤ d2) (h2 : d2 < f2) (h3 : f2 ≤ f) (i : Nat) (a : 1 ≤ i) (b : i ≤ 16) (h : stl d f i = true) : stl d2 f2 i = true := by
  rw [stl_eq d f i a b hd hf, if_pos (by omega)] at h
  rw [stl_eq d2 f2 i a b hd2 hf2, if_pos h2]
  simp only [Bool.or_eq_true, decide_eq_true_eq] at h ⊢
  omega
theorem modL_shrinks (s : Nat) (P S P2 S2 : List Nat) (m p2 s2 : Nat) (hlS : S.length = m + 1) (hl2 : S2.length = m + 1 + 1) (ep : P2.getD (m + 1) 0 = p2) (es : S2.getD (m + 1) 0 = s2)
    (h : fpp S (P.getD m 0) (S.getD m 0) s p2 s2 = true) : ∀ n ∈ modL s P2 S2, n ∈ modL s P S := by
  have hS0 : S ≠ [] := by intro e; rw [e] at hlS; simp at hlS
  have hS20 : S2 ≠ [] := by intro e; rw [e] at hl2; simp at hl2
  have e1 : modL s P S = modQ S (P.getD m 0) (S.getD m 0) s := by unfold modL; rw [if_neg hS0, hlS]; rfl
  have e2 : modL s P2 S2 = modQ S2 p2 s2 s := by unfold modL; rw [if_neg hS20, hl2, Nat.add_sub_cancel, ep, es]
  rw [e1, e2]
  generalize P.getD m 0 = p at *
  generalize S.getD m 0 = q at *
  unfold fpp fppB at h
  simp only [Bool.and_eq_true, decide_eq_true_eq, Bool.not_eq_true'] at h
  obtain ⟨hc, ⟨h1, h2⟩, h3⟩ := h
  unfold modQ
  simp only [hc, Bool.false_eq_true, if_false]
  cases hc2 : S2.contains p2
  · simp only [Bool.false_eq_true, if_false]
    exact unsL_sub (fun i a b hi => stl_more _ _ _ _ (sub_lt _ _) (sub_lt _ _) (sub_lt _ _) (sub_lt _ _) h1 h2 h3 i a b hi)
  · simp only [if_true]
    intro n hn
    cases hn
end Go.Proofs.Qxb6631297a
