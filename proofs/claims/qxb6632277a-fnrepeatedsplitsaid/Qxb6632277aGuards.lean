/-
  The byte guards, WALKED.
-/
import Derived.Test.Qxb6632277aBuild
namespace Go.Proofs.Qxb6632277a
open Go.RowKit
set_option linter.unusedSimpArgs false
set_option linter.unusedVariables false
def Fits (Ls : Nat → List ByteArray) (k : Nat) : Prop := ∀ j, j < k → (Ls j).length ≤ 2 ^ 20
def BOut (A : List Rec) (Ls : Nat → List ByteArray) (e : Ending) : Prop := ∃ r, e = .returned (.bool r) ∧ (r = true → A.length ≤ 2 ^ 20 ∧ Fits Ls A.length)
set_option maxRecDepth 100000 in
set_option maxHeartbeats 4000000 in
theorem bytes11 (b off cap : Nat) (A : List Rec) (nl : Nat → Bool) (Ls : Nat → List ByteArray) (hm : A.length ≤ maxLen) (w : World)
    (hR : ∀ (i : Nat) (a : Rec), A[i]? = some a → w.rangeAt b (off + i * 11) (aa a).toList ∧ SL w a.ans (nl i) (Ls i)) :
    Calls Try.prog 11 #[.slice (some ⟨b, off, none⟩) A.length cap] w fun e w' => BOut A Ls e ∧ w' = w := by
  unfold maxLen at hm
  have HR : Hid _ := hR
  clear hR
  by_cases h1 : (1048576 : Int) < (A.length : Int)
  · go_enter Try.func11, Try.ntmps11
    go_wp2
    go_ret
    exact ⟨⟨false, rfl, fun h => by cases h⟩, rfl⟩
  have hn1 : (A.length : Int) ≤ 1048576 := by omega
  have hn0 : (0 : Int) ≤ (A.length : Int) := by omega
  clear h1
  go_enter Try.func11, Try.ntmps11
  go_wp2
  go_loop [3, 4] (fun t i => ∃ (k : Nat) (T : Int), k ≤ A.length ∧ i = .int .i64 (k : Int) ∧ t = .int .i64 T ∧ 0 ≤ T ∧ T ≤ 1048576 ∧ Fits Ls k) (fun _ i => A.length - (intOf i).toNat)
  case atStart => exact ⟨0, A.length, Nat.zero_le _, rfl, rfl, by omega, by omega, fun j hj => by omega⟩
  case round =>
    obtain ⟨k, T, hk, rfl, rfl, hT0, hT, hfit⟩ := hrel
    have HF : Hid (Fits Ls k) := hfit
    clear hfit
    by_cases hlt : k < A.length
    · obtain ⟨a, ha⟩ : ∃ a, A[k]? = some a := ⟨_, List.getElem?_eq_getElem hlt⟩
      obtain ⟨hrg, hsl⟩ := HR.out k a ha
      obtain ⟨a1, cp, hv, hn, hcs⟩ := hsl
      have hkI : (k : Int) < (A.length : Int) := by omega
      have c0 : w.cell? ⟨b, off + k * 11, none⟩ = some (.string a.inp) := hrg 0 _ rfl
      have c5 := hrg 5 _ rfl
      have c6 := hrg 6 _ rfl
      have c7 := hrg 7 _ rfl
      have c8 := hrg 8 _ rfl
      have c10 := hrg 10 _ rfl
      obtain ⟨n0, e0, p0⟩ : ∃ n : Int, ((a.inp.size : Nat) : Int) = n ∧ 0 ≤ n := ⟨_, rfl, by omega⟩
      obtain ⟨n5, e5, p5⟩ : ∃ n : Int, ((a.fop.size : Nat) : Int) = n ∧ 0 ≤ n := ⟨_, rfl, by omega⟩
      obtain ⟨n6, e6, p6⟩ : ∃ n : Int, ((a.fail.size : Nat) : Int) = n ∧ 0 ≤ n := ⟨_, rfl, by omega⟩
      obtain ⟨n7, e7, p7⟩ : ∃ n : Int, ((a.err.size : Nat) : Int) = n ∧ 0 ≤ n := ⟨_, rfl, by omega⟩
      obtain ⟨n8, e8, p8⟩ : ∃ n : Int, ((a.rc.size : Nat) : Int) = n ∧ 0 ≤ n := ⟨_, rfl, by omega⟩
      obtain ⟨m, em⟩ : ∃ m, m = (Ls k).length := ⟨_, rfl⟩
      rw [hv, ← em] at c10
      have HCS : Hid (∀ (i : Nat) (s : ByteArray), (Ls k)[i]? = some s → ∃ b1 o1, a1 = some ⟨b1, o1, none⟩ ∧ w.cell? ⟨b1, o1 + i, none⟩ = some (.string s)) := fun i s hs => by
        rcases hcs with h | ⟨b1, o1, e, q⟩
        · rw [h] at hs; simp at hs
        · exact ⟨b1, o1, e, q i s hs⟩
      have EM : Hid (m = (Ls k).length) := em
      clear hrg ha hv hn hcs em hn0
      have hm0 : (0 : Int) ≤ (m : Int) := by omega
      by_cases x0 : (1048576 : Int) < n0
      · go_wp2
        go_ret
        exact ⟨⟨false, rfl, fun h => by cases h⟩, rfl⟩
      have y0 : n0 ≤ 1048576 := by omega
      clear x0
      by_cases z0 : (1048576 : Int) < T + n0
      · go_wp2
        go_ret
        exact ⟨⟨false, rfl, fun h => by cases h⟩, rfl⟩
      have v0 : T + n0 ≤ 1048576 := by omega
      clear z0
      by_cases x5 : (1048576 : Int) < n5
      · go_wp2
        go_ret
        exact ⟨⟨false, rfl, fun h => by cases h⟩, rfl⟩
      have y5 : n5 ≤ 1048576 := by omega
      clear x5
      by_cases z5 : (1048576 : Int) < T + n0 + n5
      · go_wp2
        go_ret
        exact ⟨⟨false, rfl, fun h => by cases h⟩, rfl⟩
      have v5 : T + n0 + n5 ≤ 1048576 := by omega
      clear z5
      by_cases x6 : (1048576 : Int) < n6
      · go_wp2
        go_ret
        exact ⟨⟨false, rfl, fun h => by cases h⟩, rfl⟩
      have y6 : n6 ≤ 1048576 := by omega
      clear x6
      by_cases z6 : (1048576 : Int) < T + n0 + n5 + n6
      · go_wp2
        go_ret
        exact ⟨⟨false, rfl, fun h => by cases h⟩, rfl⟩
      have v6 : T + n0 + n5 + n6 ≤ 1048576 := by omega
      clear z6
      by_cases x7 : (1048576 : Int) < n7
      · go_wp2
        go_ret
        exact ⟨⟨false, rfl, fun h => by cases h⟩, rfl⟩
      have y7 : n7 ≤ 1048576 := by omega
      clear x7
      by_cases z7 : (1048576 : Int) < T + n0 + n5 + n6 + n7
      · go_wp2
        go_ret
        exact ⟨⟨false, rfl, fun h => by cases h⟩, rfl⟩
      have v7 : T + n0 + n5 + n6 + n7 ≤ 1048576 := by omega
      clear z7
      by_cases x8 : (1048576 : Int) < n8
      · go_wp2
        go_ret
        exact ⟨⟨false, rfl, fun h => by cases h⟩, rfl⟩
      have y8 : n8 ≤ 1048576 := by omega
      clear x8
      by_cases z8 : (1048576 : Int) < T + n0 + n5 + n6 + n7 + n8
      · go_wp2
        go_ret
        exact ⟨⟨false, rfl, fun h => by cases h⟩, rfl⟩
      have v8 : T + n0 + n5 + n6 + n7 + n8 ≤ 1048576 := by omega
      clear z8
      by_cases xm : (1048576 : Int) < (m : Int)
      · go_wp2
        go_ret
        exact ⟨⟨false, rfl, fun h => by cases h⟩, rfl⟩
      have ym : (m : Int) ≤ 1048576 := by omega
      clear xm
      by_cases zm : (1048576 : Int) < T + n0 + n5 + n6 + n7 + n8 + (m : Int)
      · go_wp2
        go_ret
        exact ⟨⟨false, rfl, fun h => by cases h⟩, rfl⟩
      have vm : T + n0 + n5 + n6 + n7 + n8 + (m : Int) ≤ 1048576 := by omega
      clear zm
      go_wp2
      have hT6 : 0 ≤ T + n0 + n5 + n6 + n7 + n8 + (m : Int) := by omega
      generalize T + n0 + n5 + n6 + n7 + n8 + (m : Int) = T6 at *
      clear c0 c5 c6 c7 c8 e0 e5 e6 e7 e8 v0 v5 v6 v7 v8
      go_loop [3, 5] (fun t i => ∃ (j : Nat) (T2 : Int), j ≤ m ∧ i = .int .i64 (j : Int) ∧ t = .int .i64 T2 ∧ 0 ≤ T2 ∧ T2 ≤ 1048576) (fun _ i => m - (intOf i).toNat)
      case atStart => exact ⟨0, T6, Nat.zero_le _, rfl, rfl, by omega, by omega⟩
      case round =>
        obtain ⟨j, T2, hj, rfl, rfl, hT20, hT2⟩ := hrel
        by_cases hjt : j < m
        · obtain ⟨s, hs⟩ : ∃ s, (Ls k)[j]? = some s := ⟨_, List.getElem?_eq_getElem (by rw [← EM.out]; exact hjt)⟩
          obtain ⟨b1, o1, rfl, hcell⟩ := HCS.out j s hs
          have hjI : (j : Int) < (m : Int) := by omega
          obtain ⟨ns, es, ps⟩ : ∃ n : Int, ((s.size : Nat) : Int) = n ∧ 0 ≤ n := ⟨_, rfl, by omega⟩
          clear hs HCS
          by_cases xs : (1048576 : Int) < ns
          · go_wp2
            go_ret
            exact ⟨⟨false, rfl, fun h => by cases h⟩, rfl⟩
          have ys : ns ≤ 1048576 := by omega
          clear xs
          by_cases zs : (1048576 : Int) < T2 + ns
          · go_wp2
            go_ret
            exact ⟨⟨false, rfl, fun h => by cases h⟩, rfl⟩
          have vs : T2 + ns ≤ 1048576 := by omega
          clear zs
          go_wp2
          go_round
          case rel => exact ⟨j + 1, T2 + ns, by omega, by go_num, rfl, by omega, vs⟩
          case measure => simp [intOf] <;> omega
        · obtain rfl : j = m := by omega
          have hfit : Fits Ls (k + 1) := by
            intro q hq
            by_cases e : q = k
            · subst e
              rw [← EM.out]
              omega
            · exact HF.out q (by omega)
          have HF2 : Hid (Fits Ls (k + 1)) := hfit
          clear hfit HCS
          go_wp2
          go_round
          case rel => exact ⟨k + 1, T2, by omega, by go_num, rfl, hT20, hT2, HF2.out⟩
          case measure => simp [intOf] <;> omega
    · obtain rfl : k = A.length := by omega
      go_wp2
      go_ret
      exact ⟨⟨true, rfl, fun _ => ⟨by omega, HF.out⟩⟩, rfl⟩
set_option maxRecDepth 100000 in
set_option maxHeartbeats 4000000 in
theorem bytes5 (b off cap : Nat) (kk : Int) (A : List Rec) (nl : Nat → Bool) (Ls : Nat → List ByteArray) (hm : A.length ≤ maxLen) (w : World)
    (hR : ∀ (i : Nat) (a : Rec), A[i]? = some a → w.rangeAt b (off + i * 11) (aa a).toList ∧ SL w a.ans (nl i) (Ls i)) :
    Calls Try.prog 5 #[.slice (some ⟨b, off, none⟩) A.length cap, .int .i64 kk] w fun e w' => BOut A Ls e ∧ w' = w := by
  unfold maxLen at hm
  have HR : Hid _ := hR
  clear hR
  by_cases h1 : (1048576 : Int) < (A.length : Int)
  · go_enter Try.func5, Try.ntmps5
    go_wp2
    go_ret
    exact ⟨⟨false, rfl, fun h => by cases h⟩, rfl⟩
  have hn1 : (A.length : Int) ≤ 1048576 := by omega
  have hn0 : (0 : Int) ≤ (A.length : Int) := by omega
  clear h1
  go_enter Try.func5, Try.ntmps5
  go_wp2
  go_loop [5, 6] (fun t i => ∃ (k : Nat) (T : Int), k ≤ A.length ∧ i = .int .i64 (k : Int) ∧ t = .int .i64 T ∧ 0 ≤ T ∧ T ≤ 1048576 ∧ Fits Ls k) (fun _ i => A.length - (intOf i).toNat)
  case atStart => exact ⟨0, A.length, Nat.zero_le _, rfl, rfl, by omega, by omega, fun j hj => by omega⟩
  case round =>
    obtain ⟨k, T, hk, rfl, rfl, hT0, hT, hfit⟩ := hrel
    have HF : Hid (Fits Ls k) := hfit
    clear hfit
    by_cases hlt : k < A.length
    · obtain ⟨a, ha⟩ : ∃ a, A[k]? = some a := ⟨_, List.getElem?_eq_getElem hlt⟩
      obtain ⟨hrg, hsl⟩ := HR.out k a ha
      obtain ⟨a1, cp, hv, hn, hcs⟩ := hsl
      have hkI : (k : Int) < (A.length : Int) := by omega
      have c0 : w.cell? ⟨b, off + k * 11, none⟩ = some (.string a.inp) := hrg 0 _ rfl
      have c5 := hrg 5 _ rfl
      have c6 := hrg 6 _ rfl
      have c7 := hrg 7 _ rfl
      have c8 := hrg 8 _ rfl
      have c10 := hrg 10 _ rfl
      obtain ⟨n0, e0, p0⟩ : ∃ n : Int, ((a.inp.size : Nat) : Int) = n ∧ 0 ≤ n := ⟨_, rfl, by omega⟩
      obtain ⟨n5, e5, p5⟩ : ∃ n : Int, ((a.fop.size : Nat) : Int) = n ∧ 0 ≤ n := ⟨_, rfl, by omega⟩
      obtain ⟨n6, e6, p6⟩ : ∃ n : Int, ((a.fail.size : Nat) : Int) = n ∧ 0 ≤ n := ⟨_, rfl, by omega⟩
      obtain ⟨n7, e7, p7⟩ : ∃ n : Int, ((a.err.size : Nat) : Int) = n ∧ 0 ≤ n := ⟨_, rfl, by omega⟩
      obtain ⟨n8, e8, p8⟩ : ∃ n : Int, ((a.rc.size : Nat) : Int) = n ∧ 0 ≤ n := ⟨_, rfl, by omega⟩
      obtain ⟨m, em⟩ : ∃ m, m = (Ls k).length := ⟨_, rfl⟩
      rw [hv, ← em] at c10
      have HCS : Hid (∀ (i : Nat) (s : ByteArray), (Ls k)[i]? = some s → ∃ b1 o1, a1 = some ⟨b1, o1, none⟩ ∧ w.cell? ⟨b1, o1 + i, none⟩ = some (.string s)) := fun i s hs => by
        rcases hcs with h | ⟨b1, o1, e, q⟩
        · rw [h] at hs; simp at hs
        · exact ⟨b1, o1, e, q i s hs⟩
      have EM : Hid (m = (Ls k).length) := em
      clear hrg ha hv hn hcs em hn0
      have hm0 : (0 : Int) ≤ (m : Int) := by omega
      by_cases x0 : (1048576 : Int) < n0
      · go_wp2
        go_ret
        exact ⟨⟨false, rfl, fun h => by cases h⟩, rfl⟩
      have y0 : n0 ≤ 1048576 := by omega
      clear x0
      by_cases z0 : (1048576 : Int) < T + n0
      · go_wp2
        go_ret
        exact ⟨⟨false, rfl, fun h => by cases h⟩, rfl⟩
      have v0 : T + n0 ≤ 1048576 := by omega
      clear z0
      by_cases x5 : (1048576 : Int) < n5
      · go_wp2
        go_ret
        exact ⟨⟨false, rfl, fun h => by cases h⟩, rfl⟩
      have y5 : n5 ≤ 1048576 := by omega
      clear x5
      by_cases z5 : (1048576 : Int) < T + n0 + n5
      · go_wp2
        go_ret
        exact ⟨⟨false, rfl, fun h => by cases h⟩, rfl⟩
      have v5 : T + n0 + n5 ≤ 1048576 := by omega
      clear z5
      by_cases x6 : (1048576 : Int) < n6
      · go_wp2
        go_ret
        exact ⟨⟨false, rfl, fun h => by cases h⟩, rfl⟩
      have y6 : n6 ≤ 1048576 := by omega
      clear x6
      by_cases z6 : (1048576 : Int) < T + n0 + n5 + n6
      · go_wp2
        go_ret
        exact ⟨⟨false, rfl, fun h => by cases h⟩, rfl⟩
      have v6 : T + n0 + n5 + n6 ≤ 1048576 := by omega
      clear z6
      by_cases x7 : (1048576 : Int) < n7
      · go_wp2
        go_ret
        exact ⟨⟨false, rfl, fun h => by cases h⟩, rfl⟩
      have y7 : n7 ≤ 1048576 := by omega
      clear x7
      by_cases z7 : (1048576 : Int) < T + n0 + n5 + n6 + n7
      · go_wp2
        go_ret
        exact ⟨⟨false, rfl, fun h => by cases h⟩, rfl⟩
      have v7 : T + n0 + n5 + n6 + n7 ≤ 1048576 := by omega
      clear z7
      by_cases x8 : (1048576 : Int) < n8
      · go_wp2
        go_ret
        exact ⟨⟨false, rfl, fun h => by cases h⟩, rfl⟩
      have y8 : n8 ≤ 1048576 := by omega
      clear x8
      by_cases z8 : (1048576 : Int) < T + n0 + n5 + n6 + n7 + n8
      · go_wp2
        go_ret
        exact ⟨⟨false, rfl, fun h => by cases h⟩, rfl⟩
      have v8 : T + n0 + n5 + n6 + n7 + n8 ≤ 1048576 := by omega
      clear z8
      by_cases xm : (1048576 : Int) < (m : Int)
      · go_wp2
        go_ret
        exact ⟨⟨false, rfl, fun h => by cases h⟩, rfl⟩
      have ym : (m : Int) ≤ 1048576 := by omega
      clear xm
      by_cases zm : (1048576 : Int) < T + n0 + n5 + n6 + n7 + n8 + (m : Int)
      · go_wp2
        go_ret
        exact ⟨⟨false, rfl, fun h => by cases h⟩, rfl⟩
      have vm : T + n0 + n5 + n6 + n7 + n8 + (m : Int) ≤ 1048576 := by omega
      clear zm
      go_wp2
      have hT6 : 0 ≤ T + n0 + n5 + n6 + n7 + n8 + (m : Int) := by omega
      generalize T + n0 + n5 + n6 + n7 + n8 + (m : Int) = T6 at *
      clear c0 c5 c6 c7 c8 e0 e5 e6 e7 e8 v0 v5 v6 v7 v8
      go_loop [5, 7] (fun t i => ∃ (j : Nat) (T2 : Int), j ≤ m ∧ i = .int .i64 (j : Int) ∧ t = .int .i64 T2 ∧ 0 ≤ T2 ∧ T2 ≤ 1048576) (fun _ i => m - (intOf i).toNat)
      case atStart => exact ⟨0, T6, Nat.zero_le _, rfl, rfl, by omega, by omega⟩
      case round =>
        obtain ⟨j, T2, hj, rfl, rfl, hT20, hT2⟩ := hrel
        by_cases hjt : j < m
        · obtain ⟨s, hs⟩ : ∃ s, (Ls k)[j]? = some s := ⟨_, List.getElem?_eq_getElem (by rw [← EM.out]; exact hjt)⟩
          obtain ⟨b1, o1, rfl, hcell⟩ := HCS.out j s hs
          have hjI : (j : Int) < (m : Int) := by omega
          obtain ⟨ns, es, ps⟩ : ∃ n : Int, ((s.size : Nat) : Int) = n ∧ 0 ≤ n := ⟨_, rfl, by omega⟩
          clear hs HCS
          by_cases xs : (1048576 : Int) < ns
          · go_wp2
            go_ret
            exact ⟨⟨false, rfl, fun h => by cases h⟩, rfl⟩
          have ys : ns ≤ 1048576 := by omega
          clear xs
          by_cases zs : (1048576 : Int) < T2 + ns
          · go_wp2
            go_ret
            exact ⟨⟨false, rfl, fun h => by cases h⟩, rfl⟩
          have vs : T2 + ns ≤ 1048576 := by omega
          clear zs
          go_wp2
          go_round
          case rel => exact ⟨j + 1, T2 + ns, by omega, by go_num, rfl, by omega, vs⟩
          case measure => simp [intOf] <;> omega
        · obtain rfl : j = m := by omega
          have hfit : Fits Ls (k + 1) := by
            intro q hq
            by_cases e : q = k
            · subst e
              rw [← EM.out]
              omega
            · exact HF.out q (by omega)
          have HF2 : Hid (Fits Ls (k + 1)) := hfit
          clear hfit HCS
          go_wp2
          go_round
          case rel => exact ⟨k + 1, T2, by omega, by go_num, rfl, hT20, hT2, HF2.out⟩
          case measure => simp [intOf] <;> omega
    · obtain rfl : k = A.length := by omega
      go_wp2
      go_ret
      exact ⟨⟨true, rfl, fun _ => ⟨by omega, HF.out⟩⟩, rfl⟩
end Go.Proofs.Qxb6632277a
