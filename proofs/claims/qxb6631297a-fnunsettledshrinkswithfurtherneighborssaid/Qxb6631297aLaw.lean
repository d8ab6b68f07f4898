/-
  THE PLAIN LAW: what 'Unsettled' lists is what the bit lengths say; and it is the same for a table that is turned round the ring. No Go in sight.
-/
import Derived.Test.Qxb6631297aModel
namespace Go.Proofs.Qxb6631297a
set_option linter.unusedVariables false

/-- o is one of the powers 2^(128-i), i from 1 to 16. -/
theorem pow_i (i : Nat) (h1 : 1 ≤ i) (h2 : i ≤ 16) : 2 ^ (128 - i) < M128 ∧ 0 < 2 ^ (128 - i) :=
  ⟨pow_lt_M (by omega), Nat.pow_pos (by decide)⟩
theorem sub_add (s o p : Nat) (hs : s < M128) (ho : o < M128) (hp : p < M128) : sub (add s o) p = sub o (sub p s) := by
  have e : M128 = 340282366920938463463374607431768211456 := by decide +kernel
  unfold sub add
  rw [e] at hs ho hp ⊢
  omega
theorem sub_sub (q p s : Nat) (hq : q < M128) (hp : p < M128) (hs : s < M128) : sub q p = sub (sub q s) (sub p s) := by
  have e : M128 = 340282366920938463463374607431768211456 := by decide +kernel
  unfold sub
  rw [e] at hq hp hs ⊢
  omega
/-- The interval (f, d] round the ring, seen from its start. -/
theorem wth_lin (o f d : Nat) (ho : o < M128) (hf : f < M128) (hd : d < M128) (hne : f ≠ d) :
    (!(sub o f == 0) && decide (sub o f ≤ sub d f)) = if d < f then decide (f < o) || decide (o ≤ d) else decide (f < o) && decide (o ≤ d) := by
  have e : M128 = 340282366920938463463374607431768211456 := by decide +kernel
  have h0 : ∀ x y : Nat, x < M128 → y < M128 → sub x y = if y ≤ x then x - y else x + M128 - y := by
    intro x y hx hy
    unfold sub
    rw [e] at hx hy ⊢
    split <;> omega
  rw [h0 o f ho hf, h0 d f hd hf]
  rw [e] at ho hf hd ⊢
  clear h0
  rw [Bool.eq_iff_iff]
  by_cases h1 : d < f
  · rw [if_pos h1, if_neg (show ¬ f ≤ d by omega)]
    by_cases h2 : f ≤ o
    · rw [if_pos h2]; simp; omega
    · rw [if_neg h2]; simp; omega
  · rw [if_neg h1, if_pos (show f ≤ d by omega)]
    by_cases h2 : f ≤ o
    · rw [if_pos h2]; simp; omega
    · rw [if_neg h2]; simp; omega
theorem stl_eq (d f i : Nat) (h1 : 1 ≤ i) (h2 : i ≤ 16) (hd : d < M128) (hf : f < M128) :
    stl d f i = if d < f then decide (f < 2 ^ (128 - i)) || decide (2 ^ (128 - i) ≤ d) else decide (f < 2 ^ (128 - i)) && decide (2 ^ (128 - i) ≤ d) := by
  have hA : decide ((i : Int) ≤ 128 - (blen f : Int)) = decide (f < 2 ^ (128 - i)) := by
    rw [Bool.eq_iff_iff]
    simp only [decide_eq_true_eq]
    have := blen_le f (128 - i)
    have hb := blen_M f hf
    omega
  have hB : decide (129 - (blen d : Int) ≤ (i : Int)) = decide (2 ^ (128 - i) ≤ d) := by
    rw [Bool.eq_iff_iff]
    simp only [decide_eq_true_eq]
    have := blen_le d (128 - i)
    have hb := blen_M d hd
    omega
  have hC : (0 < cmp f d) ↔ d < f := by
    unfold cmp
    repeat' split
    all_goals omega
  unfold stl
  rw [hA, hB]
  by_cases h : d < f
  · rw [if_pos h, if_pos (hC.2 h)]
  · rw [if_neg h, if_neg (fun g => h (hC.1 g))]
theorem sub_inj (p q s : Nat) (hp : p < M128) (hq : q < M128) (hs : s < M128) (h : sub p s = sub q s) : p = q := by
  have e : M128 = 340282366920938463463374607431768211456 := by decide +kernel
  unfold sub at h
  rw [e] at hp hq hs h
  omega
theorem wth_stl (s p q i : Nat) (hs : s < M128) (hp : p < M128) (hq : q < M128) (hne : p ≠ q) (h1 : 1 ≤ i) (h2 : i ≤ 16) : wth p (fst s i) q = stl (sub q s) (sub p s) i := by
  obtain ⟨ho, _⟩ := pow_i i h1 h2
  unfold wth fst
  rw [sub_add s _ p hs ho hp, sub_sub q p s hq hp hs, stl_eq _ _ _ h1 h2 (sub_lt _ _) (sub_lt _ _)]
  exact wth_lin _ _ _ ho (sub_lt _ _) (sub_lt _ _) (fun h => hne (sub_inj p q s hp hq hs h))
theorem unsL_congr {c c' : Nat → Bool} : ∀ k, (∀ i, 1 ≤ i → i ≤ k → c i = c' i) → unsL c k = unsL c' k
  | 0, _ => rfl
  | k + 1, h => by rw [unsL, unsL, unsL_congr k (fun i a b => h i a (by omega)), h (k + 1) (by omega) (by omega)]
theorem unsL_true : ∀ k, unsL (fun _ => true) k = []
  | 0 => rfl
  | k + 1 => by rw [unsL, unsL_true k]; rfl
theorem getD_mem {L : List Nat} {m : Nat} (h : m < L.length) : L.getD m 0 ∈ L := by
  rw [List.getD_eq_getElem?_getD, List.getElem?_eq_getElem h]
  exact List.getElem_mem h
/-- UNSETTLED IS WHAT THE MODEL SAYS. -/
theorem uns_model (s : Nat) (hs : s < M128) (P S : List Nat) (hP : ∀ n ∈ P, n < M128) (hS : ∀ n ∈ S, n < M128) (hle : S.length ≤ P.length) :
    unsL (fun i => cov P S (fst s i)) 16 = modL s P S := by
  unfold modL cov
  by_cases h0 : S = []
  · simp only [if_pos h0]; exact unsL_true 16
  · simp only [if_neg h0]
    have hl : 0 < S.length := List.length_pos_iff.2 h0
    have hp := hP _ (getD_mem (L := P) (m := S.length - 1) (by omega))
    have hqm := getD_mem (L := S) (m := S.length - 1) (by omega)
    have hq := hS _ hqm
    generalize P.getD (S.length - 1) 0 = p at *
    generalize S.getD (S.length - 1) 0 = q at *
    unfold modQ
    cases hc : S.contains p
    · have hne : p ≠ q := by
        rintro rfl
        rw [List.contains_iff_mem.2 hqm] at hc
        cases hc
      simp only [Bool.false_or, Bool.false_eq_true, if_false]
      exact unsL_congr 16 (fun i a b => wth_stl s p q i hs hp hq hne a b)
    · simp only [Bool.true_or, if_true]; exact unsL_true 16

/-! ### The turn by c -/
theorem add_inj (a b c : Nat) (ha : a < M128) (hb : b < M128) (hc : c < M128) (h : add a c = add b c) : a = b := by
  have e : M128 = 340282366920938463463374607431768211456 := by decide +kernel
  unfold add at h
  rw [e] at ha hb hc h
  omega
theorem sub_turn (a b c : Nat) (ha : a < M128) (hb : b < M128) (hc : c < M128) : sub (add a c) (add b c) = sub a b := by
  have e : M128 = 340282366920938463463374607431768211456 := by decide +kernel
  unfold sub add
  rw [e] at ha hb hc ⊢
  omega
theorem modL_turn (s c : Nat) (hs : s < M128) (hc : c < M128) (P S : List Nat) (hP : ∀ n ∈ P, n < M128) (hS : ∀ n ∈ S, n < M128) (hle : S.length ≤ P.length) :
    modL (add s c) (P.map (add · c)) (S.map (add · c)) = modL s P S := by
  unfold modL
  by_cases h0 : S = []
  · rw [if_pos h0, if_pos (by simp [h0])]
  · have hl : 0 < S.length := List.length_pos_iff.2 h0
    have h0' : S.map (add · c) ≠ [] := by simpa using h0
    rw [if_neg h0, if_neg h0', List.length_map]
    have hpm := getD_mem (L := P) (m := S.length - 1) (by omega)
    have hqm := getD_mem (L := S) (m := S.length - 1) (by omega)
    have hp := hP _ hpm
    have hq := hS _ hqm
    have e1 : (P.map (add · c)).getD (S.length - 1) 0 = add (P.getD (S.length - 1) 0) c := by
      simp only [List.getD_eq_getElem?_getD, List.getElem?_map, List.getElem?_eq_getElem (show S.length - 1 < P.length by omega)]
      rfl
    have e2 : (S.map (add · c)).getD (S.length - 1) 0 = add (S.getD (S.length - 1) 0) c := by
      simp only [List.getD_eq_getElem?_getD, List.getElem?_map, List.getElem?_eq_getElem (show S.length - 1 < S.length by omega)]
      rfl
    rw [e1, e2]
    generalize P.getD (S.length - 1) 0 = p at *
    generalize S.getD (S.length - 1) 0 = q at *
    unfold modQ
    have e3 : (S.map (add · c)).contains (add p c) = S.contains p := by
      rw [Bool.eq_iff_iff, List.contains_iff_mem, List.contains_iff_mem, List.mem_map]
      constructor
      · rintro ⟨x, hx, e⟩
        rwa [← add_inj x p c (hS x hx) hp hc e]
      · intro h; exact ⟨p, h, rfl⟩
    rw [e3, sub_turn q s c hq hs hc, sub_turn p s c hp hs hc]
end Go.Proofs.Qxb6631297a
