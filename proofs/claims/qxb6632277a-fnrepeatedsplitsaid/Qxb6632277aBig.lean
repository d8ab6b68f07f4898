/-
  attsTooBig, WALKED: it answers a bool.
-/
import Derived.Test.Qxb6632277aBuild
namespace Go.Proofs.Qxb6632277a
open Go.RowKit
set_option linter.unusedSimpArgs false
set_option linter.unusedVariables false
def IsB (e : Ending) : Prop := ∃ b, e = .returned (.bool b)
set_option maxRecDepth 100000 in
set_option maxHeartbeats 4000000 in
theorem big_any (b off cap : Nat) (A : List Rec) (nl : Nat → Bool) (Ls : Nat → List ByteArray) (hm : A.length ≤ maxLen) (w : World)
    (hR : ∀ (i : Nat) (a : Rec), A[i]? = some a → w.rangeAt b (off + i * 11) (aa a).toList ∧ SL w a.ans (nl i) (Ls i)) :
    Calls Try.prog 6 #[.slice (some ⟨b, off, none⟩) A.length cap] w fun e w' => IsB e ∧ Below w.heap.size w w' := by
  unfold maxLen at hm
  have HR : Hid _ := hR
  have s0 := aa_size r0
  clear hR
  by_cases h1 : (65536 : Int) < (A.length : Int)
  · go_enter Try.func6, Try.ntmps6
    go_wp2
    go_ret
    exact ⟨⟨_, rfl⟩, Below.refl _ _⟩
  have hn1 : (A.length : Int) ≤ 65536 := by omega
  clear h1
  go_enter Try.func6, Try.ntmps6
  go_wp2
  go_loopw [3, 4] (fun t i wr => ∃ (k : Nat) (T : Int), k ≤ A.length ∧ i = .int .i64 (k : Int) ∧ t = .int .i64 T ∧ 0 ≤ T ∧ T ≤ 1048576 ∧ Below w.heap.size w wr) (fun _ i _ => A.length - (intOf i).toNat)
  case atStart => exact ⟨0, 0, Nat.zero_le _, rfl, rfl, by omega, by omega, Below.refl _ _⟩
  case round =>
    obtain ⟨k, T, hk, rfl, rfl, hT0, hT, hb⟩ := hrel
    have HB : Hid (Below w.heap.size w wr) := hb
    clear hb
    by_cases hlt : k < A.length
    · obtain ⟨a, ha⟩ : ∃ a, A[k]? = some a := ⟨_, List.getElem?_eq_getElem hlt⟩
      obtain ⟨hrg0, hsl0⟩ := HR.out k a ha
      have HG : Hid (World.rangeAt wr b (off + k * 11) (aa a).toList) := range_kept hrg0 HB.out
      have hsl := (hsl0.kept HB.out).alloc (.cells (aa a) 62)
      have HOA : Hid ((aa a).all (·.oneCell') = true) := by
        show _ = _
        simp [aa, al, Value.oneCell']
        exact hsl.one
      obtain ⟨a1, cp, hv, hn, hcs⟩ := hsl
      have hkI : (k : Int) < (A.length : Int) := by omega
      have p0 := aa0 a; have p5 := aa5 a; have p6 := aa6 a; have p7 := aa7 a; have p8 := aa8 a; have p10 := aa10 a
      obtain ⟨n0, e0, q0⟩ : ∃ n : Int, ((a.inp.size : Nat) : Int) = n ∧ 0 ≤ n := ⟨_, rfl, by omega⟩
      obtain ⟨n5, e5, q5⟩ : ∃ n : Int, ((a.fop.size : Nat) : Int) = n ∧ 0 ≤ n := ⟨_, rfl, by omega⟩
      obtain ⟨n6, e6, q6⟩ : ∃ n : Int, ((a.fail.size : Nat) : Int) = n ∧ 0 ≤ n := ⟨_, rfl, by omega⟩
      obtain ⟨n7, e7, q7⟩ : ∃ n : Int, ((a.err.size : Nat) : Int) = n ∧ 0 ≤ n := ⟨_, rfl, by omega⟩
      obtain ⟨n8, e8, q8⟩ : ∃ n : Int, ((a.rc.size : Nat) : Int) = n ∧ 0 ≤ n := ⟨_, rfl, by omega⟩
      obtain ⟨m, em⟩ : ∃ m, m = (Ls k).length := ⟨_, rfl⟩
      rw [hv, ← em] at p10
      have EM : Hid (m = (Ls k).length) := em
      have sc : Hid _ := aa_size a
      have HB3 : Hid (Below w.heap.size w (wr.alloc (.cells (aa a) 62))) := HB.out.alloc HB.out.size _
      have HCS : Hid (∀ (i : Nat) (s : ByteArray), (Ls k)[i]? = some s → ∃ b1 o1, a1 = some ⟨b1, o1, none⟩ ∧ (wr.alloc (.cells (aa a) 62)).cell? ⟨b1, o1 + i, none⟩ = some (.string s)) := fun i s hs => by
        rcases hcs with h | ⟨b1, o1, e, q⟩
        · rw [h] at hs; simp at hs
        · exact ⟨b1, o1, e, q i s hs⟩
      clear hrg0 hsl0 ha hv hn hcs em
      generalize aa a = c at *
      have hm0 : (0 : Int) ≤ (m : Int) := by omega
      by_cases x0 : (1048576 : Int) < n0
      · have d0 : decide ((1048576 : Int) < n0) = true := by rw [decide_eq_true_iff]; exact x0
        go_wp2_with (first | (with_reducible refine al' 62 (aa r0) z62 ?_) | ((with_reducible refine lm' 62 _ L62 b (off + k * 11) c ?_ HG.out sc.out ?_); rfl) | ((with_reducible refine sn' 62 _ _ L62 (aa r0) c ?_ ?_ s0 sc.out HOA.out ?_); rfl; rfl))
        go_ret
        exact ⟨⟨_, rfl⟩, HB3.out⟩
      have d0 : decide ((1048576 : Int) < n0) = false := by rw [decide_eq_false_iff_not]; exact x0
      have y0 : n0 ≤ 1048576 := by omega
      clear x0
      by_cases x5 : (1048576 : Int) < n5
      · have d5 : decide ((1048576 : Int) < n5) = true := by rw [decide_eq_true_iff]; exact x5
        go_wp2_with (first | (with_reducible refine al' 62 (aa r0) z62 ?_) | ((with_reducible refine lm' 62 _ L62 b (off + k * 11) c ?_ HG.out sc.out ?_); rfl) | ((with_reducible refine sn' 62 _ _ L62 (aa r0) c ?_ ?_ s0 sc.out HOA.out ?_); rfl; rfl))
        go_ret
        exact ⟨⟨_, rfl⟩, HB3.out⟩
      have d5 : decide ((1048576 : Int) < n5) = false := by rw [decide_eq_false_iff_not]; exact x5
      have y5 : n5 ≤ 1048576 := by omega
      clear x5
      by_cases x6 : (1048576 : Int) < n6
      · have d6 : decide ((1048576 : Int) < n6) = true := by rw [decide_eq_true_iff]; exact x6
        go_wp2_with (first | (with_reducible refine al' 62 (aa r0) z62 ?_) | ((with_reducible refine lm' 62 _ L62 b (off + k * 11) c ?_ HG.out sc.out ?_); rfl) | ((with_reducible refine sn' 62 _ _ L62 (aa r0) c ?_ ?_ s0 sc.out HOA.out ?_); rfl; rfl))
        go_ret
        exact ⟨⟨_, rfl⟩, HB3.out⟩
      have d6 : decide ((1048576 : Int) < n6) = false := by rw [decide_eq_false_iff_not]; exact x6
      have y6 : n6 ≤ 1048576 := by omega
      clear x6
      by_cases x7 : (1048576 : Int) < n7
      · have d7 : decide ((1048576 : Int) < n7) = true := by rw [decide_eq_true_iff]; exact x7
        go_wp2_with (first | (with_reducible refine al' 62 (aa r0) z62 ?_) | ((with_reducible refine lm' 62 _ L62 b (off + k * 11) c ?_ HG.out sc.out ?_); rfl) | ((with_reducible refine sn' 62 _ _ L62 (aa r0) c ?_ ?_ s0 sc.out HOA.out ?_); rfl; rfl))
        go_ret
        exact ⟨⟨_, rfl⟩, HB3.out⟩
      have d7 : decide ((1048576 : Int) < n7) = false := by rw [decide_eq_false_iff_not]; exact x7
      have y7 : n7 ≤ 1048576 := by omega
      clear x7
      by_cases x8 : (1048576 : Int) < n8
      · have d8 : decide ((1048576 : Int) < n8) = true := by rw [decide_eq_true_iff]; exact x8
        go_wp2_with (first | (with_reducible refine al' 62 (aa r0) z62 ?_) | ((with_reducible refine lm' 62 _ L62 b (off + k * 11) c ?_ HG.out sc.out ?_); rfl) | ((with_reducible refine sn' 62 _ _ L62 (aa r0) c ?_ ?_ s0 sc.out HOA.out ?_); rfl; rfl))
        go_ret
        exact ⟨⟨_, rfl⟩, HB3.out⟩
      have d8 : decide ((1048576 : Int) < n8) = false := by rw [decide_eq_false_iff_not]; exact x8
      have y8 : n8 ≤ 1048576 := by omega
      clear x8
      by_cases xm : (65536 : Int) < (m : Int)
      · have dm : decide ((65536 : Int) < (m : Int)) = true := by rw [decide_eq_true_iff]; exact xm
        go_wp2_with (first | (with_reducible refine al' 62 (aa r0) z62 ?_) | ((with_reducible refine lm' 62 _ L62 b (off + k * 11) c ?_ HG.out sc.out ?_); rfl) | ((with_reducible refine sn' 62 _ _ L62 (aa r0) c ?_ ?_ s0 sc.out HOA.out ?_); rfl; rfl))
        go_ret
        exact ⟨⟨_, rfl⟩, HB3.out⟩
      have dm : decide ((65536 : Int) < (m : Int)) = false := by rw [decide_eq_false_iff_not]; exact xm
      have ym : (m : Int) ≤ 65536 := by omega
      clear xm
      by_cases z : (1048576 : Int) < T + (64 + n0 + n5 + n6 + n7 + n8 + 16 * (m : Int))
      · go_wp2_with (first | (with_reducible refine al' 62 (aa r0) z62 ?_) | ((with_reducible refine lm' 62 _ L62 b (off + k * 11) c ?_ HG.out sc.out ?_); rfl) | ((with_reducible refine sn' 62 _ _ L62 (aa r0) c ?_ ?_ s0 sc.out HOA.out ?_); rfl; rfl))
        go_ret
        exact ⟨⟨_, rfl⟩, HB3.out⟩
      have v : T + (64 + n0 + n5 + n6 + n7 + n8 + 16 * (m : Int)) ≤ 1048576 := by omega
      have v0 : 0 ≤ T + (64 + n0 + n5 + n6 + n7 + n8 + 16 * (m : Int)) := by omega
      clear z
      go_wp2_with (first | (with_reducible refine al' 62 (aa r0) z62 ?_) | ((with_reducible refine lm' 62 _ L62 b (off + k * 11) c ?_ HG.out sc.out ?_); rfl) | ((with_reducible refine sn' 62 _ _ L62 (aa r0) c ?_ ?_ s0 sc.out HOA.out ?_); rfl; rfl))
      have cW := (At.new wr 62 c).cell 10 p10
      generalize T + (64 + n0 + n5 + n6 + n7 + n8 + 16 * (m : Int)) = T6 at *
      generalize wr.alloc (.cells c 62) = W at *
      clear p0 p5 p6 p7 p8 p10 e0 e5 e6 e7 e8 d0 d5 d6 d7 d8 dm sc HG HOA
      go_loop [3, 6] (fun t i => ∃ (j : Nat) (T2 : Int), j ≤ m ∧ i = .int .i64 (j : Int) ∧ t = .int .i64 T2 ∧ 0 ≤ T2 ∧ T2 ≤ 1048576) (fun _ i => m - (intOf i).toNat)
      case atStart => exact ⟨0, T6, Nat.zero_le _, rfl, rfl, by omega, by omega⟩
      case round =>
        obtain ⟨j, T2, hj, rfl, rfl, hT20, hT2⟩ := hrel
        by_cases hjt : j < m
        · obtain ⟨s, hs⟩ : ∃ s, (Ls k)[j]? = some s := ⟨_, List.getElem?_eq_getElem (by rw [← EM.out]; exact hjt)⟩
          obtain ⟨b1, o1, rfl, hcell⟩ := HCS.out j s hs
          have hjI : (j : Int) < (m : Int) := by omega
          obtain ⟨ns, es, ps⟩ : ∃ n : Int, ((s.size : Nat) : Int) = n ∧ 0 ≤ n := ⟨_, rfl, by omega⟩
          clear hs HCS
          by_cases xs : (1048576 : Int) < ns
          · go_wp2
            go_ret
            exact ⟨⟨_, rfl⟩, HB3.out⟩
          have ys : ns ≤ 1048576 := by omega
          clear xs
          by_cases zs : (1048576 : Int) < T2 + ns
          · go_wp2
            go_ret
            exact ⟨⟨_, rfl⟩, HB3.out⟩
          have vs : T2 + ns ≤ 1048576 := by omega
          clear zs
          go_wp2
          go_round
          case rel => exact ⟨j + 1, T2 + ns, by omega, by go_num, rfl, by omega, vs⟩
          case measure => simp [intOf] <;> omega
        · obtain rfl : j = m := by omega
          clear HCS
          go_wp2
          go_roundw
          case rel => exact ⟨k + 1, T2, by omega, by go_num, rfl, hT20, hT2, HB3.out⟩
          case measure => simp [intOf] <;> omega
    · go_wp2
      go_ret
      exact ⟨⟨_, rfl⟩, HB.out⟩
end Go.Proofs.Qxb6632277a
