/-
  The law's sameInts (at two slices that hold the same) and its bound on lengths, WALKED.
-/
import Derived.Test.Qxb6631297aModel
import Derived.Deep.CutBlock
namespace Go.Proofs.Qxb6631297a
open Go.RowKit
set_option linter.unusedSimpArgs false
set_option linter.unusedVariables false
/-- The slice of ints v holds the numbers L. -/
def ISeq (w : World) (v : Value) (L : List Nat) : Prop :=
  ∃ a cap, v = .slice a L.length cap ∧ (L = [] ∨ ∃ b off, a = some ⟨b, off, none⟩ ∧ ∀ (i n : Nat), L[i]? = some n → w.cell? ⟨b, off + i, none⟩ = some (.int .i64 (n : Int)))
theorem ISeq.kept {w w1 : World} {v : Value} {L : List Nat} (h : ISeq w v L) (hb : Below w.heap.size w w1) : ISeq w1 v L := by
  obtain ⟨a, cap, e, hr⟩ := h
  refine ⟨a, cap, e, ?_⟩
  rcases hr with hr | ⟨b, off, e, hc⟩
  · exact .inl hr
  exact .inr ⟨b, off, e, fun i n hi => by
    have := hc i n hi
    rw [hb.cell (p := ⟨b, off + i, none⟩) (block_lt_of_cell this)]
    exact this⟩
theorem ISeq.of_own {w : World} {base : Nat} {v : Value} {L : List Nat} (h : w.ownsRow base 3 1 v L.length (iV L)) : ISeq w v L := by
  rcases h.2 with ⟨rfl, hn⟩ | ⟨g, cap, cur, rfl, _, hg, _, _, hsz, htk⟩
  · have : L = [] := List.length_eq_zero_iff.1 hn
    subst this
    exact ⟨none, 0, rfl, .inl rfl⟩
  · refine ⟨_, cap, rfl, .inr ⟨g, 0, rfl, fun i n hi => ?_⟩⟩
    have hl := (List.getElem?_eq_some_iff.1 hi).1
    rw [Nat.zero_add, cell_of_row w g i cur 3 (0, 0) hg]
    have h1 : (cur.toList.take (L.length * 1))[i]? = some (.int .i64 (n : Int)) := by
      rw [htk]
      simp [iV, hi]
    rw [List.getElem?_take_of_lt (by omega)] at h1
    simpa using h1

set_option maxHeartbeats 800000 in
theorem same_any (v1 v2 : Value) (L : List Nat) (hlen : L.length ≤ 2 ^ 20) (w : World) (h1 : ISeq w v1 L) (h2 : ISeq w v2 L) :
    Calls Try.prog 12 #[v1, v2] w fun e w' => e = .returned (.bool true) ∧ Below w.heap.size w w' := by
  obtain ⟨a1, cap1, rfl, r1⟩ := h1
  obtain ⟨a2, cap2, rfl, r2⟩ := h2
  have hne : (((L.length : Int)) != (L.length : Int)) = false := by simp
  go_enter Try.func12, Try.ntmps12
  go_wp2
  go_loopw [5] (fun i wr => ∃ k : Nat, k ≤ L.length ∧ i = .int .i64 (k : Int) ∧ Below w.heap.size w wr) (fun i _ => L.length - (intOf i).toNat)
  case atStart => exact ⟨0, Nat.zero_le _, rfl, Below.refl _ _⟩
  case round =>
    obtain ⟨k, hk, rfl, hb⟩ := hrel
    by_cases hlt : k < L.length
    · obtain ⟨n, hn⟩ : ∃ n, L[k]? = some n := ⟨_, List.getElem?_eq_getElem hlt⟩
      have hL : L ≠ [] := by rintro rfl; simp at hlt
      obtain ⟨b1, o1, rfl, q1⟩ := r1.resolve_left hL
      obtain ⟨b2, o2, rfl, q2⟩ := r2.resolve_left hL
      have k1 := q1 k n hn
      have k2 := q2 k n hn
      have c1 : wr.cell? ⟨b1, o1 + k, none⟩ = some (.int .i64 (n : Int)) := by rw [hb.cell (p := ⟨b1, o1 + k, none⟩) (block_lt_of_cell k1)]; exact k1
      have c2 : wr.cell? ⟨b2, o2 + k, none⟩ = some (.int .i64 (n : Int)) := by rw [hb.cell (p := ⟨b2, o2 + k, none⟩) (block_lt_of_cell k2)]; exact k2
      have hne2 : (((n : Int)) != (n : Int)) = false := by simp
      have hkI : (k : Int) < (L.length : Int) := by omega
      clear hn hL q1 q2 k1 k2 r1 r2
      go_wp2
      go_quiet (fail)
      go_wp2
      go_roundw
      case rel => exact ⟨k + 1, by omega, by go_num, below_drewN hb _⟩
      case measure => simp [intOf] <;> omega
    · go_wp2
      go_ret
      exact ⟨rfl, hb⟩
/-- It answers a bool. -/
def IsB (e : Ending) : Prop := ∃ b, e = .returned (.bool b)
set_option maxRecDepth 100000 in
set_option maxHeartbeats 800000 in
theorem bytes1_any (s c : Nat) (pa : Option Addr) (pn pc : Nat) (sa : Option Addr) (sn sc : Nat) (hp : pn ≤ maxLen) (hs : sn ≤ maxLen) (w : World) :
    Calls Try.prog 5 #[.agg (bs s), .slice pa pn pc, .slice sa sn sc, .agg (bs c)] w fun e w' => IsB e ∧ Below w.heap.size w w' := by
  unfold maxLen at hp hs
  have hB := ((Below.refl w.heap.size w).alloc (Nat.le_refl _) (.cells (bs s) 22)).alloc (by simp) (.cells (bs c) 22)
  by_cases h1 : pn ≤ 1048576
  · go_enter Try.func5, Try.ntmps5
    go_wp2
    go_loop [9, 10] (fun z i => ∃ (k : Nat) (n : Int), k ≤ pn ∧ i = .int .i64 (k : Int) ∧ z = .int .i64 n ∧ 0 ≤ n ∧ n ≤ 1048576) (fun _ i => pn - (intOf i).toNat)
    case atStart => exact ⟨0, pn, Nat.zero_le _, rfl, rfl, by omega, by omega⟩
    case round =>
      obtain ⟨k, n, hk, rfl, rfl, hn0, hn⟩ := hrel
      by_cases hlt : k < pn
      · by_cases hz : n + 16 ≤ 1048576
        · go_upto_block 1 with fail
          refine wp_block ?_
          refine wp_seq_k fun K hK => ?_
          refine wp_cond_false rfl ?_
          go_wp2
          go_round
          case rel => exact ⟨k + 1, n + 16, by omega, by go_num, rfl, by omega, hz⟩
          case measure => simp [intOf] <;> omega
        · go_upto_block 1 with fail
          refine wp_block ?_
          refine wp_seq_k fun K hK => ?_
          refine wp_cond_false rfl ?_
          go_wp2
          go_ret
          exact ⟨⟨_, rfl⟩, hB⟩
      · by_cases h2 : sn ≤ 1048576
        · by_cases hz : n + sn ≤ 1048576
          · go_wp2
            go_loop [9, 11] (fun z i => ∃ (k : Nat) (n : Int), k ≤ sn ∧ i = .int .i64 (k : Int) ∧ z = .int .i64 n ∧ 0 ≤ n ∧ n ≤ 1048576) (fun _ i => sn - (intOf i).toNat)
            case atStart => exact ⟨0, n + sn, Nat.zero_le _, rfl, rfl, by omega, by omega⟩
            case round =>
              obtain ⟨k2, n2, hk2, rfl, rfl, hn20, hn2⟩ := hrel
              by_cases hlt2 : k2 < sn
              · by_cases hz2 : n2 + 16 ≤ 1048576
                · go_upto_block 3 with fail
                  refine wp_block ?_
                  refine wp_seq_k fun K hK => ?_
                  refine wp_cond_false rfl ?_
                  go_wp2
                  go_round
                  case rel => exact ⟨k2 + 1, n2 + 16, by omega, by go_num, rfl, by omega, hz2⟩
                  case measure => simp [intOf] <;> omega
                · go_upto_block 3 with fail
                  refine wp_block ?_
                  refine wp_seq_k fun K hK => ?_
                  refine wp_cond_false rfl ?_
                  go_wp2
                  go_ret
                  exact ⟨⟨_, rfl⟩, hB⟩
              · go_wp2
                go_ret
                exact ⟨⟨_, rfl⟩, hB⟩
          · go_wp2
            go_ret
            exact ⟨⟨_, rfl⟩, hB⟩
        · go_wp2
          go_ret
          exact ⟨⟨_, rfl⟩, hB⟩
  · go_enter Try.func5, Try.ntmps5
    go_wp2
    go_ret
    exact ⟨⟨_, rfl⟩, hB⟩
end Go.Proofs.Qxb6631297a
