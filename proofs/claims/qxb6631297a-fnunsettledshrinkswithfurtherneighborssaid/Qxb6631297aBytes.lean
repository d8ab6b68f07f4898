/-
  THE LAW's OWN FOUR FUNCTIONS ON SIXTEEN BYTES, WALKED: sub128, add128, cmp128, bitLen128.
-/
import Derived.Test.Qxb6631297aMem
import Derived.Test.Qxb6631297aPlain2
namespace Go.Proofs.Qxb6631297a
open Go.RowKit
theorem ret_int {k : IntKind} {a b : Int} (h : a = b) : Ending.returned (.int k a) = .returned (.int k b) := by rw [h]

set_option maxHeartbeats 400000 in
theorem sub_any (a b : Nat) (hb : b < M128) (w : World) :
    Calls Try.prog 19 #[.agg (bs a), .agg (bs b)] w fun e w' => e = .returned (.agg (bs (sub a b))) ∧ Below w.heap.size w w' := by
  go_enter Try.func19, Try.ntmps19
  go_wp2
  simp only [bs_zero]
  go_loopw [6, 7] (fun c i wr => ∃ k : Nat, k ≤ 16 ∧ i = .int .i64 (15 - (k : Int)) ∧ c = .int .i64 (bor a b k) ∧ At wr 22 w.heap.size a ∧ At wr 22 (w.heap.size + 1) b ∧ At wr 22 (w.heap.size + 1 + 1) 0 ∧
      At wr 22 (w.heap.size + 1 + 1 + 1) (sub a b % 256 ^ k) ∧ Below w.heap.size w wr)
    (fun _ i _ => (intOf i + 1).toNat)
  case atStart =>
    refine ⟨0, by omega, rfl, by simp [bor, Nat.mod_one], ?_, ?_, ?_, ?_, ?_⟩
    · exact (((At.new w 22 a).alloc _).alloc _).alloc _
    · exact ((At.new' (w.alloc (.cells (bs a) 22)) 22 b (by simp)).alloc _).alloc _
    · exact (At.new' ((w.alloc (.cells (bs a) 22)).alloc (.cells (bs b) 22)) 22 0 (by simp)).alloc _
    · rw [Nat.pow_zero, Nat.mod_one]; exact At.new' _ 22 0 (by simp)
    · exact ((((Below.refl _ _).alloc (Nat.le_refl _) _).alloc (by simp) _).alloc (by simp; omega) _).alloc (by simp; omega) _
  case round =>
    obtain ⟨k, hk, rfl, rfl, hA, hB, hR, hO, hbel⟩ := hrel
    by_cases hlt : k < 16
    · obtain ⟨j, hj, hkj⟩ : ∃ j : Nat, (15 - (k : Int)) = j ∧ k = 15 - j := ⟨15 - k, by omega, by omega⟩
      rw [hj]
      have hj15 : j < 16 := by omega
      have cA := hA.cell hj15
      have cB := hB.cell hj15
      have fO := hO.frozen j
      have cO := hO.cell hj15
      rw [← hkj] at cA cB cO
      have b1 := by8_lt a k
      have b2 := by8_lt b k
      have b3 := bor_bd a b k
      have ST := sub_step a b k hb hlt
      have hset := bs_set (sub a b) k hlt
      have HS : Hid (15 - k = j) := show 15 - k = j by omega
      rw [HS.out] at hset
      have HJ : Hid ((15 - (k : Int)) = j) := hj
      generalize by8 a k = x at *
      generalize by8 b k = y at *
      generalize bor a b k = c at *
      have HT : Hid _ := hset
      clear hkj hj hset
      go_wp2
      go_quiet (fail)
      go_wp2
      all_goals
        go_roundw
        case rel =>
          have hneg := ST.1
          have hpos := ST.2
          refine ⟨k + 1, by omega, by congr 1; have := HJ.out; omega, by congr 1; omega, hA.drew.setCell_other _ _ (by simp; omega), hB.drew.setCell_other _ _ (by simp), hR.drew.setCell_other _ _ (by simp), ?_, (below_drewN hbel _).setCell (by simp; omega) _⟩
          refine (hO.drewN nq).setCell ?_
          rw [← HT.out]
          congr 2
          omega
        case measure => simp [intOf] <;> omega
    · obtain rfl : k = 16 := by omega
      go_wp2_with (first | (refine wpList_ld rfl 22 _ rfl .a (w.heap.size + 1 + 1 + 1) rfl 22 _ hO ?_) | (refine wpList_st rfl 22 _ _ rfl .a (w.heap.size + 1 + 1) _ rfl rfl 22 _ hR ?_))
      exact bodyPost_ret (results_id Try.results19 .a _ _ (w.heap.size + 1 + 1) 22 _ rfl (hR.setRow _)) rfl ⟨by rw [bs_full _ (sub_lt a b)], below_setRow' hbel (by omega) _⟩
set_option maxHeartbeats 400000 in
theorem add_any (a b : Nat) (w : World) :
    Calls Try.prog 9 #[.agg (bs a), .agg (bs b)] w fun e w' => e = .returned (.agg (bs (add a b))) ∧ Below w.heap.size w w' := by
  go_enter Try.func9, Try.ntmps9
  go_wp2
  simp only [bs_zero]
  go_loopw [6, 7] (fun c i wr => ∃ k : Nat, k ≤ 16 ∧ i = .int .i64 (15 - (k : Int)) ∧ c = .int .u64 (car a b k : Int) ∧ At wr 22 w.heap.size a ∧ At wr 22 (w.heap.size + 1) b ∧ At wr 22 (w.heap.size + 1 + 1) 0 ∧
      At wr 22 (w.heap.size + 1 + 1 + 1) (add a b % 256 ^ k) ∧ Below w.heap.size w wr)
    (fun _ i _ => (intOf i + 1).toNat)
  case atStart =>
    refine ⟨0, by omega, rfl, by rw [car_zero]; rfl, ?_, ?_, ?_, ?_, ?_⟩
    · exact (((At.new w 22 a).alloc _).alloc _).alloc _
    · exact ((At.new' (w.alloc (.cells (bs a) 22)) 22 b (by simp)).alloc _).alloc _
    · exact (At.new' ((w.alloc (.cells (bs a) 22)).alloc (.cells (bs b) 22)) 22 0 (by simp)).alloc _
    · rw [Nat.pow_zero, Nat.mod_one]; exact At.new' _ 22 0 (by simp)
    · exact ((((Below.refl _ _).alloc (Nat.le_refl _) _).alloc (by simp) _).alloc (by simp; omega) _).alloc (by simp; omega) _
  case round =>
    obtain ⟨k, hk, rfl, rfl, hA, hB, hR, hO, hbel⟩ := hrel
    by_cases hlt : k < 16
    · obtain ⟨j, hj, hkj⟩ : ∃ j : Nat, (15 - (k : Int)) = j ∧ k = 15 - j := ⟨15 - k, by omega, by omega⟩
      rw [hj]
      have hj15 : j < 16 := by omega
      have cA := hA.cell hj15
      have cB := hB.cell hj15
      have fO := hO.frozen j
      have cO := hO.cell hj15
      rw [← hkj] at cA cB cO
      have b1 := by8_lt a k
      have b2 := by8_lt b k
      have b3 := car_bd a b k
      have ST : Hid _ := add_step a b k hlt
      have hset := bs_set (add a b) k hlt
      have HS : Hid (15 - k = j) := show 15 - k = j by omega
      rw [HS.out] at hset
      have HJ : Hid ((15 - (k : Int)) = j) := hj
      generalize by8 a k = x at *
      generalize by8 b k = y at *
      generalize car a b k = c at *
      have HT : Hid _ := hset
      clear hkj hj hset
      go_wp2
      go_quiet (fail)
      go_wp2
      go_roundw
      case rel =>
        have e1 := ST.out.1
        have e2 := ST.out.2
        refine ⟨k + 1, by omega, by congr 1; have := HJ.out; omega, ?_, hA.drew.setCell_other _ _ (by simp; omega), hB.drew.setCell_other _ _ (by simp), hR.drew.setCell_other _ _ (by simp), ?_, (below_drewN hbel _).setCell (by simp; omega) _⟩
        · congr 1; omega
        refine (hO.drewN nq).setCell ?_
        rw [← HT.out]
        congr 2
        omega
      case measure => simp [intOf] <;> omega
    · obtain rfl : k = 16 := by omega
      go_wp2_with (first | (refine wpList_ld rfl 22 _ rfl .a (w.heap.size + 1 + 1 + 1) rfl 22 _ hO ?_) | (refine wpList_st rfl 22 _ _ rfl .a (w.heap.size + 1 + 1) _ rfl rfl 22 _ hR ?_))
      exact bodyPost_ret (results_id Try.results9 .a _ _ (w.heap.size + 1 + 1) 22 _ rfl (hR.setRow _)) rfl ⟨by rw [bs_full _ (add_lt a b)], below_setRow' hbel (by omega) _⟩

set_option maxHeartbeats 400000 in
theorem cmp_any (a b : Nat) (ha : a < M128) (hb : b < M128) (w : World) :
    Calls Try.prog 21 #[.agg (bs a), .agg (bs b)] w fun e w' => e = .returned (.int .i64 (cmp a b)) ∧ Below w.heap.size w w' := by
  go_enter Try.func21, Try.ntmps21
  go_wp2
  go_loopw [5] (fun i wr => ∃ k : Nat, k ≤ 16 ∧ i = .int .i64 (k : Int) ∧ a / 256 ^ (16 - k) = b / 256 ^ (16 - k) ∧ At wr 22 w.heap.size a ∧ At wr 22 (w.heap.size + 1) b ∧ Below w.heap.size w wr)
    (fun i _ => (16 - intOf i).toNat)
  case atStart =>
    refine ⟨0, by omega, rfl, by rw [div_full ha, div_full hb], ?_, ?_, ?_⟩
    · exact (At.new w 22 a).alloc _
    · exact At.new' (w.alloc (.cells (bs a) 22)) 22 b (by simp)
    · exact ((Below.refl _ _).alloc (Nat.le_refl _) _).alloc (by simp) _
  case round =>
    obtain ⟨k, hk, rfl, heq, hA, hB, hbel⟩ := hrel
    by_cases hlt : k < 16
    · have cA := hA.cell hlt
      have cB := hB.cell hlt
      have b1 := by8_lt a (15 - k)
      have b2 := by8_lt b (15 - k)
      have e16 : 16 - k = 15 - k + 1 := by omega
      rw [e16] at heq
      have L1 : Hid _ := @cmp_lt a b (15 - k) heq
      have L2 : Hid _ := @cmp_gt a b (15 - k) heq
      have L3 : Hid _ := @div_eq_next a b (15 - k) heq
      have e15 : Hid (16 - (k + 1) = 15 - k) := show 16 - (k + 1) = 15 - k by omega
      clear heq e16
      generalize by8 a (15 - k) = x at *
      generalize by8 b (15 - k) = y at *
      have T : Hid (x = y ∨ x < y ∨ y < x) := show x = y ∨ x < y ∨ y < x by omega
      rcases T.out with h | h | h
      · subst h
        have hn : (((x : Int) != (x : Int))) = false := by simp
        go_wp2
        go_quiet (fail)
        go_wp2
        go_roundw
        case rel => exact ⟨k + 1, by omega, by go_num, by rw [e15.out]; exact L3.out (by trivial), hA.drewN _, hB.drewN _, below_drewN hbel _⟩
        case measure => simp [intOf] <;> omega
      · have hn : (((x : Int) != (y : Int))) = true := by rw [bne_iff_ne]; omega
        go_wp2
        go_quiet (fail)
        go_wp2
        go_quiet (fail)
        go_wp2
        go_ret
        exact ⟨ret_int (L1.out h).symm, below_drewN (below_drewN hbel _) _⟩
      · have hn : (((x : Int) != (y : Int))) = true := by rw [bne_iff_ne]; omega
        go_wp2
        go_quiet (fail)
        go_wp2
        go_quiet (fail)
        go_wp2
        go_ret
        exact ⟨ret_int (L2.out h).symm, below_drewN (below_drewN hbel _) _⟩
    · obtain rfl : k = 16 := by omega
      simp only [Nat.sub_self, Nat.pow_zero, Nat.div_one] at heq
      have H : Hid (a = b) := heq
      clear heq
      go_wp2
      go_ret
      exact ⟨ret_int (by rw [H.out]; simp [cmp]), hbel⟩

set_option maxHeartbeats 400000 in
theorem blen_any (a : Nat) (ha : a < M128) (w : World) :
    Calls Try.prog 20 #[.agg (bs a)] w fun e w' => e = .returned (.int .i64 (blen a : Int)) ∧ Below w.heap.size w w' := by
  go_enter Try.func20, Try.ntmps20
  go_wp2
  go_loop [3] (fun i => ∃ k : Nat, k ≤ 16 ∧ i = .int .i64 (k : Int) ∧ a < 256 ^ (16 - k))
    (fun i => (16 - intOf i).toNat)
  case atStart => exact ⟨0, by omega, rfl, by rw [Nat.sub_zero, ← M128_eq]; exact ha⟩
  case round =>
    obtain ⟨k, hk, rfl, hlt0⟩ := hrel
    have hA := At.new w 22 a
    by_cases hlt : k < 16
    · have cA := hA.cell hlt
      have b1 := by8_lt a (15 - k)
      rw [show 16 - k = 15 - k + 1 by omega] at hlt0
      have L1 : Hid _ := @blen_byte a (15 - k) hlt0
      have L2 : Hid _ := @lt_next a (15 - k) hlt0
      have e15 : Hid (16 - (k + 1) = 15 - k) := show 16 - (k + 1) = 15 - k by omega
      clear hlt0
      generalize by8 a (15 - k) = x at *
      by_cases hx : x = 0
      · subst hx
        go_wp2
        go_round
        case rel => exact ⟨k + 1, by omega, by go_num, by rw [e15.out]; exact L2.out rfl⟩
        case measure => simp [intOf] <;> omega
      · have hn : (((x : Int) != 0)) = true := by rw [bne_iff_ne]; omega
        have L3 := L1.out hx
        have HL : Hid _ := L3
        clear L1 L2 L3
        have HX : Hid _ := blen_le_8 x b1
        go_wp2
        go_loop [4, 5] (fun c v => ∃ m u : Nat, c = .int .i64 (m : Int) ∧ v = .int .u8 (u : Int) ∧ u < 256 ∧ m + blen u = blen x) (fun _ v => (intOf v).toNat)
        case atStart => exact ⟨0, x, rfl, rfl, b1, by omega⟩
        case round =>
          obtain ⟨m, u, rfl, rfl, hu, hm⟩ := hrel
          have hm8 : m ≤ 8 := by have := HX.out; omega
          have HM : Hid _ := hm
          clear hm
          by_cases hu0 : u = 0
          · subst hu0
            go_wp2
            go_ret
            exact ⟨ret_int (by have h1 := HM.out; have h2 := HL.out; rw [blen_zero] at h1; omega), (Below.refl _ _).alloc (Nat.le_refl _) _⟩
          · have hn : (((u : Int) != 0)) = true := by rw [bne_iff_ne]; omega
            go_wp2
            go_round
            case rel => exact ⟨m + 1, u / 2, by go_num, by go_num, by omega, by have := blen_half u hu0; have := HM.out; omega⟩
            case measure => simp [intOf] <;> omega
    · obtain rfl : k = 16 := by omega
      simp only [Nat.sub_self, Nat.pow_zero] at hlt0
      have H : Hid (a = 0) := show a = 0 by omega
      clear hlt0
      go_wp2
      go_ret
      exact ⟨ret_int (by rw [H.out, blen_zero]; rfl), (Below.refl _ _).alloc (Nat.le_refl _) _⟩
end Go.Proofs.Qxb6631297a
