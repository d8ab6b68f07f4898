import Derived.Test.Qxb6632331aSplit
import Derived.WalkKit
import Derived.WalkSpells
import Derived.WalkLawsBesides
import Derived.BigQuiet
import Derived.Below
namespace Go.Proofs.Qxb6632331a
open Go.RowKit
set_option linter.unusedSimpArgs false
set_option linter.unusedVariables false
--BEGIN
theorem mod_two (l : Nat) (h : Int) : h % pw (l + 1) = h % pw l ∨ h % pw (l + 1) = h % pw l + pw l := by
  have hp := pw_pos l
  have h1 := Int.mul_ediv_add_emod h (pw l)
  have h2 := Int.emod_nonneg h (show pw l ≠ 0 by omega)
  have h3 := Int.emod_lt_of_pos h (show 0 < pw l by omega)
  rw [pw_succ]
  generalize h % pw l = r at *
  generalize pw l = p at *
  have h4 := Int.mul_ediv_add_emod (h / p) 2
  have h5 : (h / p) % 2 = 0 ∨ (h / p) % 2 = 1 := by omega
  generalize (h / p) / 2 = q at *
  have h6 : (p * (h / p)) = 2 * p * q + p * ((h / p) % 2) := by
    conv => lhs; rw [← h4]
    rw [Int.mul_add, ← Int.mul_assoc, Int.mul_comm p 2]
  rcases h5 with e | e
  · left
    rw [e, Int.mul_zero] at h6
    rw [← h1, h6, Int.add_zero, Int.add_comm, Int.add_mul_emod_self_left]
    exact Int.emod_eq_of_lt h2 (by omega)
  · right
    rw [e, Int.mul_one] at h6
    rw [← h1, h6, show 2 * p * q + p + r = (r + p) + 2 * p * q by omega, Int.add_mul_emod_self_left]
    exact Int.emod_eq_of_lt (by omega) (by omega)
theorem bk_ge (l : Nat) (N h : Int) : 0 ≤ bk l N h := by
  have hp := pw_pos l
  have hq := pw_pos (l + 1)
  unfold bk
  split
  · exact Int.emod_nonneg h (by omega)
  · exact Int.emod_nonneg h (by omega)
/-- The bucket behind a split: as before, or from 'from' to 'to'. -/
theorem bk_moves (l : Nat) (N h : Int) (h0 : 0 ≤ N) (h1 : N < pw l) : bk (nl l N) (nn l N) h < pw l + N + 1 ∧ (bk (nl l N) (nn l N) h = bk l N h ∨ (bk l N h = N ∧ bk (nl l N) (nn l N) h = pw l + N)) := by
  have hp := pw_pos l
  have h2 := Int.emod_nonneg h (show pw l ≠ 0 by omega)
  have h3 := Int.emod_lt_of_pos h (show 0 < pw l by omega)
  have hq := pw_pos (l + 1)
  have h4 := Int.emod_nonneg h (show pw (l + 1) ≠ 0 by omega)
  have h6 := mod_two l h
  unfold nl nn
  by_cases e : N + 1 = pw l
  · rw [if_pos e, if_pos e]
    unfold bk
    rw [if_neg (show ¬ h % pw (l + 1) < 0 by omega)]
    generalize h % pw (l + 1) = s at *
    generalize h % pw l = r at *
    generalize pw l = p at *
    split <;> omega
  · rw [if_neg e, if_neg e]
    unfold bk
    generalize h % pw (l + 1) = s at *
    generalize h % pw l = r at *
    generalize pw l = p at *
    split <;> split <;> omega
set_option maxRecDepth 100000 in
set_option maxHeartbeats 4000000 in
theorem moves_walk (l0 : Nat) (N0 h : Int) (hh0 : 0 ≤ h) (hh1 : h ≤ 18446744073709551615) (hl2 : (l0 : Int) ≤ 18446744073709551615) (w : World) :
    Calls Try.prog 4 #[.int .u64 l0, .int .i64 N0, .int .u64 h] w fun e w' => e = .returned (.bool true) ∧ Grown w w' := by
  by_cases hbig : 61 < (l0 : Int)
  · go_enter Try.func4, Try.ntmps4
    go_wp2
    go_ret
    exact ⟨rfl, Grown.refl _⟩
  have hl0 : l0 ≤ 61 := by omega
  have hsh0 := sh_i64 (show l0 ≤ 62 by omega)
  have htop0 : pw l0 ≤ 2305843009213693952 := pw_mono (m := 61) hl0
  by_cases hneg : N0 < 0
  · go_enter Try.func4, Try.ntmps4
    go_wp2
    go_ret
    exact ⟨rfl, Grown.refl _⟩
  by_cases hge : pw l0 ≤ N0
  · go_enter Try.func4, Try.ntmps4
    go_wp2
    go_ret
    exact ⟨rfl, Grown.refl _⟩
  have hp0 := pw_pos l0
  go_enter Try.func4, Try.ntmps4
  go_wp2_with (go_at_call 5; refine (new_any l0 N0 _).mono ?_; rintro e wq ⟨rfl, hs⟩; have HS : Hid _ := hs; clear hs)
  clear hsh0
  go_loopw [9, 10, 11, 12] (fun c cl cn i wr => ∃ (k : Int) (l : Nat) (N : Int), 0 ≤ k ∧ k ≤ 2 ∧ i = .int .i64 k ∧ cl = .int .u64 l ∧ cn = .int .i64 N ∧ c = .int .i64 (pw l + N) ∧ 0 ≤ N ∧ N < pw l ∧ pw l + N ≤ 4611686018427387903 + k ∧ St wr w.heap.size l N ∧ Kp w.heap.size w wr) (fun _ _ _ i _ => (2 - intOf i).toNat)
  case atStart => exact ⟨0, l0, N0, by omega, by omega, rfl, rfl, rfl, rfl, by omega, by omega, by omega, HS.out⟩
  case round =>
    clear HS hbig hl0 htop0 hneg hge hp0
    obtain ⟨k, l, N, hk0, hkn, rfl, rfl, rfl, rfl, hN, hlt, hsum, hS, hK⟩ := hrel
    by_cases hr : k < 2
    · have hl : l ≤ 62 := lev hN (by rw [show pw (62 + 1) = 9223372036854775808 from rfl]; omega)
      have hp := pw_pos l
      have htop := pw_top hl
      have hN2 := nx_ge (l := l) hN
      have hlt2 := nx_lt hlt
      have hsum2 := nx_sum l N
      have hl2 : nl l N ≤ 62 := lev hN2 (by rw [show pw (62 + 1) = 9223372036854775808 from rfl]; omega)
      have hlev : nl l N = l ∨ nl l N = l + 1 := by unfold nl; split <;> simp
      have hp2 := pw_pos (nl l N)
      have htop2 := pw_top hl2
      have hsh := sh_i64 hl2
      obtain ⟨hb1, hb2⟩ := bk_moves l N h hN hlt
      have hb3 := bk_ge l N h
      have hb4 := bk_ge (nl l N) (nn l N) h
      have HC : Hid _ := zsplit_any w.heap.size l N hl hN hlt wr hS
      have HD : Hid (∀ w, Calls Try.prog 7 #[.int .i64 (pw l + N)] w fun e w' => e = .returned (.int .i64 N) ∧ w' = w) := fun w => clear_eq _ l N rfl hN hlt (by omega) w
      have HR : Hid (∀ w', (St w' w.heap.size (nl l N) (nn l N) ∧ ∀ B, B ≤ w.heap.size → Kp B wr w') → St w' w.heap.size (nl l N) (nn l N) ∧ Kp w.heap.size w w') := fun w' h => ⟨h.1, hK.trans (h.2 _ (Nat.le_refl _))⟩
      clear hS hK
      have HSum : Hid _ := hsum2
      generalize nl l N = m at *
      generalize nn l N = M at *
      have hcount : pw m + M = pw l + N + 1 := hsum2
      clear hsum2
      have hlevI : (m : Int) = l ∨ (m : Int) = (l : Int) + 1 := by omega
      clear hlev
      have HX : Hid (0 ≤ M ∧ M < pw m ∧ pw m + M ≤ 4611686018427387903 + (k + 1)) := ⟨hN2, hlt2, by omega⟩
      have hpos : 0 < pw m := by omega
      rcases hlevI with e | e
      · obtain rfl : l = m := by omega
        obtain rfl : M = N + 1 := by omega
        clear hcount
        have hne : (pw l + (N + 1) != pw l + N + 1) = false := by simp; omega
        rcases hb2 with eb | ⟨eb, ec⟩
        · rw [eb] at hb1 hb4
          go_wp2_with (first | (go_at_call 6; refine Calls.mono HC.out ?_; rintro e wq ⟨rfl, hs⟩; have HS : Hid _ := HR.out _ hs; clear hs; have H8 : Hid _ := level_any _ _ _ _ HS.out.1; have H9 : Hid _ := next_any _ _ _ _ HS.out.1) | (go_at_call 7; refine (HD.out _).mono ?_; rintro e wq ⟨rfl, hq⟩; subst wq) | (go_at_call 8; refine Calls.mono H8.out ?_; rintro e wq ⟨rfl, hq⟩; subst wq) | (go_at_call 9; refine Calls.mono H9.out ?_; rintro e wq ⟨rfl, hq⟩; subst wq) | (go_at_call 10; refine (bucket_any _ _ h (by omega) (by omega) (by omega) hh0 hh1 _).mono ?_; rintro e wq ⟨rfl, hq⟩; subst wq))
          go_roundw
          case rel => exact ⟨k + 1, l, N + 1, by omega, by omega, by go_num, rfl, rfl, by go_num, HX.out.1, HX.out.2.1, HX.out.2.2, HS.out⟩
          case measure => simp [intOf] <;> omega
        · rw [ec] at hb1 hb4
          rw [eb] at hb3
          go_wp2_with (first | (go_at_call 6; refine Calls.mono HC.out ?_; rintro e wq ⟨rfl, hs⟩; have HS : Hid _ := HR.out _ hs; clear hs; have H8 : Hid _ := level_any _ _ _ _ HS.out.1; have H9 : Hid _ := next_any _ _ _ _ HS.out.1) | (go_at_call 7; refine (HD.out _).mono ?_; rintro e wq ⟨rfl, hq⟩; subst wq) | (go_at_call 8; refine Calls.mono H8.out ?_; rintro e wq ⟨rfl, hq⟩; subst wq) | (go_at_call 9; refine Calls.mono H9.out ?_; rintro e wq ⟨rfl, hq⟩; subst wq) | (go_at_call 10; refine (bucket_any _ _ h (by omega) (by omega) (by omega) hh0 hh1 _).mono ?_; rintro e wq ⟨rfl, hq⟩; subst wq))
          go_roundw
          case rel => exact ⟨k + 1, l, N + 1, by omega, by omega, by go_num, rfl, rfl, by go_num, HX.out.1, HX.out.2.1, HX.out.2.2, HS.out⟩
          case measure => simp [intOf] <;> omega
      · obtain rfl : m = l + 1 := by omega
        obtain rfl : M = 0 := by rw [pw_succ] at hcount; omega
        rw [Int.add_zero] at hcount
        have hne : (pw (l + 1) != pw l + N + 1) = false := by simp; omega
        have HC' : Hid _ := hcount
        clear hcount
        rcases hb2 with eb | ⟨eb, ec⟩
        · rw [eb] at hb1 hb4
          go_wp2_with (first | (go_at_call 6; refine Calls.mono HC.out ?_; rintro e wq ⟨rfl, hs⟩; have HS : Hid _ := HR.out _ hs; clear hs; have H8 : Hid _ := level_any _ _ _ _ HS.out.1; have H9 : Hid _ := next_any _ _ _ _ HS.out.1) | (go_at_call 7; refine (HD.out _).mono ?_; rintro e wq ⟨rfl, hq⟩; subst wq) | (go_at_call 8; refine Calls.mono H8.out ?_; rintro e wq ⟨rfl, hq⟩; subst wq) | (go_at_call 9; refine Calls.mono H9.out ?_; rintro e wq ⟨rfl, hq⟩; subst wq) | (go_at_call 10; refine (bucket_any _ _ h (by omega) (by omega) (by omega) hh0 hh1 _).mono ?_; rintro e wq ⟨rfl, hq⟩; subst wq))
          go_roundw
          case rel => exact ⟨k + 1, l + 1, 0, by omega, by omega, by go_num, by go_num, rfl, by rw [Int.add_zero, HC'.out], HX.out.1, HX.out.2.1, HX.out.2.2, HS.out⟩
          case measure => simp [intOf] <;> omega
        · rw [ec] at hb1 hb4
          rw [eb] at hb3
          go_wp2_with (first | (go_at_call 6; refine Calls.mono HC.out ?_; rintro e wq ⟨rfl, hs⟩; have HS : Hid _ := HR.out _ hs; clear hs; have H8 : Hid _ := level_any _ _ _ _ HS.out.1; have H9 : Hid _ := next_any _ _ _ _ HS.out.1) | (go_at_call 7; refine (HD.out _).mono ?_; rintro e wq ⟨rfl, hq⟩; subst wq) | (go_at_call 8; refine Calls.mono H8.out ?_; rintro e wq ⟨rfl, hq⟩; subst wq) | (go_at_call 9; refine Calls.mono H9.out ?_; rintro e wq ⟨rfl, hq⟩; subst wq) | (go_at_call 10; refine (bucket_any _ _ h (by omega) (by omega) (by omega) hh0 hh1 _).mono ?_; rintro e wq ⟨rfl, hq⟩; subst wq))
          go_roundw
          case rel => exact ⟨k + 1, l + 1, 0, by omega, by omega, by go_num, by go_num, rfl, by rw [Int.add_zero, HC'.out], HX.out.1, HX.out.2.1, HX.out.2.2, HS.out⟩
          case measure => simp [intOf] <;> omega
    · obtain rfl : k = 2 := by omega
      have HG : Hid (Grown w wr) := hK.grown
      clear hS hK
      go_wp2
      go_ret
      exact ⟨rfl, HG.out⟩
--END
end Go.Proofs.Qxb6632331a
