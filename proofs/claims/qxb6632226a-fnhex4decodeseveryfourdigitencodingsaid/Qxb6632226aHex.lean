import Derived.Test.Qxb6632226aRows
import Derived.Test.Qxb6632226aPlain
import Derived.WalkKit
import Derived.WalkSpells
import Derived.WalkLawsBesides
namespace Go.Proofs.Qxb6632226a
open Go.RowKit
set_option linter.unusedSimpArgs false
set_option linter.unusedVariables false
--BEGIN
theorem ret_int {k : IntKind} {a b : Int} (h : a = b) : Ending.returned (.int k a) = .returned (.int k b) := by rw [h]
theorem idx_fact (k : Nat) (hk : k < 22) (w : World) : (Instr.index 9 (.string ⟨#[48, 49, 50, 51, 52, 53, 54, 55, 56, 57, 97, 98, 99, 100, 101, 102, 65, 66, 67, 68, 69, 70]⟩) (.int .i64 (k : Int))).run Try.prog w = .ok (.int .u8 (tabv k)) w := by
  have h : k = 0 ∨ k = 1 ∨ k = 2 ∨ k = 3 ∨ k = 4 ∨ k = 5 ∨ k = 6 ∨ k = 7 ∨ k = 8 ∨ k = 9 ∨ k = 10 ∨ k = 11 ∨ k = 12 ∨ k = 13 ∨ k = 14 ∨ k = 15 ∨ k = 16 ∨ k = 17 ∨ k = 18 ∨ k = 19 ∨ k = 20 ∨ k = 21 := by omega
  rcases h with rfl | rfl | rfl | rfl | rfl | rfl | rfl | rfl | rfl | rfl | rfl | rfl | rfl | rfl | rfl | rfl | rfl | rfl | rfl | rfl | rfl | rfl
  all_goals (show _ = _; kernel_rfl)
set_option maxHeartbeats 400000 in
theorem digit_any (c : Int) (hc0 : 0 ≤ c) (hc1 : c ≤ 255) (w : World) :
    Calls Try.prog 9 #[.int .u8 c] w fun e w' => e = .returned (.int .i32 (hxv c)) ∧ w' = w := by
  go_enter Try.func9, Try.ntmps9
  go_wp2
  go_loop [3] (fun i => ∃ k : Nat, k ≤ 22 ∧ i = .int .i64 (k : Int) ∧ ∀ j, j < k → tabv j ≠ c) (fun i => (22 - intOf i).toNat)
  case atStart => exact ⟨0, Nat.zero_le _, rfl, fun j hj => by omega⟩
  case round =>
    obtain ⟨k, hk, rfl, hno⟩ := hrel
    have HN : Hid _ := hno
    clear hno
    by_cases hlt : k < 22
    · have hidx := idx_fact k hlt
      have HT : Hid _ := tab_hit k hlt
      have hkI : (k : Int) < 22 := by omega
      generalize hv : tabv k = t at *
      have HV : Hid _ := hv
      clear hv
      by_cases he : t = c
      · subst he
        by_cases h16 : k < 16
        · go_wp2
          go_ret
          exact ⟨ret_int (by rw [HT.out, if_pos h16]), rfl⟩
        · go_wp2
          go_ret
          exact ⟨ret_int (by rw [HT.out, if_neg h16]), rfl⟩
      · have hq : (t == c) = false := beq_eq_false_iff_ne.2 he
        have HE : Hid _ := he
        clear he
        go_wp2
        go_round
        case rel => exact ⟨k + 1, by omega, by go_num, fun j hj => by
          by_cases e : j = k
          · subst e; rw [HV.out]; exact HE.out
          · exact HN.out j (by omega)⟩
        case measure => simp [intOf] <;> omega
    · obtain rfl : k = 22 := by omega
      have HM : Hid _ := tab_miss c HN.out
      go_wp2
      go_ret
      exact ⟨ret_int HM.out.symm, rfl⟩

theorem ret_two {k : IntKind} {a b : Int} {x y : Bool} (h : a = b) (g : x = y) : Ending.returned (.tuple #[.int k a, .bool x]) = .returned (.tuple #[.int k b, .bool y]) := by rw [h, g]
set_option maxHeartbeats 400000 in
theorem hex4_short (a : Option Addr) (len cap : Nat) (h : len < 4) (w : World) :
    Calls Try.prog 10 #[.slice a len cap] w fun e w' => e = .returned (.tuple #[.int .i32 0, .bool false]) ∧ w' = w := by
  go_enter Try.func10, Try.ntmps10
  go_wp2
  go_ret2
  exact ⟨rfl, rfl⟩
set_option maxHeartbeats 800000 in
theorem hex4_long (b off len cap : Nat) (z : Nat → Int) (h : 4 ≤ len) (hm : len ≤ maxLen) (hcap : len ≤ cap) (hz : ∀ j, j < 4 → 0 ≤ z j ∧ z j ≤ 255) (w : World) (hc : ∀ j, j < 4 → w.cell? ⟨b, off + j, none⟩ = some (.int .u8 (z j))) :
    Calls Try.prog 10 #[.slice (some ⟨b, off, none⟩) len cap] w fun e w' => e = .returned (.tuple #[.int .i32 (val4 z), .bool (ok4 z)]) ∧ w' = w := by
  unfold maxLen at hm
  go_enter Try.func10, Try.ntmps10
  go_wp2
  go_loop [4, 13] (fun r i => ∃ k : Nat, k ≤ 4 ∧ i = .int .i64 (k : Int) ∧ r = .int .i32 (acc z k) ∧ ∀ j, j < k → 0 ≤ hxv (z j)) (fun _ i => (4 - intOf i).toNat)
  case atStart => exact ⟨0, Nat.zero_le _, rfl, rfl, fun j hj => by omega⟩
  case round =>
    obtain ⟨k, hk, rfl, rfl, hno⟩ := hrel
    have HN : Hid _ := hno
    clear hno
    by_cases hlt : k < 4
    · have hcell := hc k hlt
      have hzb := hz k hlt
      have hab := acc_lt z k (by omega) HN.out
      have hkI : (k : Int) < 4 := by omega
      have hcs := hxv_cases (z k)
      have hor := or_i32 (acc z k) (hxv (z k)) hab.1 hab.2
      have HA : Hid (acc z (k + 1) = acc z k * 16 + hxv (z k)) := rfl
      have HF : Hid (hxv (z k) = -1 → ok4 z = false ∧ val4 z = 0) := fun e => ok4_false hlt e
      have HK : Hid (0 ≤ hxv (z k) → ∀ j, j < k + 1 → 0 ≤ hxv (z j)) := fun e j hj => by
        by_cases e' : j = k
        · rw [e']; exact e
        · exact HN.out j (by omega)
      clear hc hz
      generalize hxv (z k) = v at *
      generalize z k = c at *
      generalize acc z k = r at *
      have HC : Hid _ := hcs
      have HO : Hid _ := hor
      clear hcs hor
      rcases HC.out with ⟨a1, a2, e⟩ | ⟨a1, a2, e⟩ | ⟨a1, a2, e⟩ | ⟨a1, a2, a3, e⟩
      · skip
        have f0 : decide (48 ≤ c) = true := by rw [decide_eq_true_iff]; omega
        have f1 : decide (c ≤ 57) = true := by rw [decide_eq_true_iff]; omega
        have ho := HO.out (by omega) (by omega)
        rw [e] at ho
        have HE : Hid _ := e
        clear e
        go_wp2
        go_round
        case rel => exact ⟨k + 1, by omega, by go_num, by rw [HA.out, HE.out], HK.out (by rw [HE.out]; omega)⟩
        case measure => simp [intOf] <;> omega
      · skip
        have f0 : decide (48 ≤ c) = true := by rw [decide_eq_true_iff]; omega
        have f1 : decide (c ≤ 57) = false := by rw [decide_eq_false_iff_not]; omega
        have f2 : decide (97 ≤ c) = true := by rw [decide_eq_true_iff]; omega
        have f3 : decide (c ≤ 102) = true := by rw [decide_eq_true_iff]; omega
        have ho := HO.out (by omega) (by omega)
        rw [e] at ho
        have HE : Hid _ := e
        clear e
        go_wp2
        go_round
        case rel => exact ⟨k + 1, by omega, by go_num, by rw [HA.out, HE.out], HK.out (by rw [HE.out]; omega)⟩
        case measure => simp [intOf] <;> omega
      · skip
        have f0 : decide (48 ≤ c) = true := by rw [decide_eq_true_iff]; omega
        have f1 : decide (c ≤ 57) = false := by rw [decide_eq_false_iff_not]; omega
        have f2 : decide (97 ≤ c) = false := by rw [decide_eq_false_iff_not]; omega
        have f3 : decide (65 ≤ c) = true := by rw [decide_eq_true_iff]; omega
        have f4 : decide (c ≤ 70) = true := by rw [decide_eq_true_iff]; omega
        have ho := HO.out (by omega) (by omega)
        rw [e] at ho
        have HE : Hid _ := e
        clear e
        go_wp2
        go_round
        case rel => exact ⟨k + 1, by omega, by go_num, by rw [HA.out, HE.out], HK.out (by rw [HE.out]; omega)⟩
        case measure => simp [intOf] <;> omega
      · have HE := HF.out e
        have HE1 : Hid _ := HE.1
        have HE2 : Hid _ := HE.2
        clear HE e
        cases f0 : decide (48 ≤ c) <;> cases f1 : decide (c ≤ 57) <;> cases f2 : decide (97 ≤ c) <;> cases f3 : decide (c ≤ 102) <;> cases f4 : decide (65 ≤ c) <;> cases f5 : decide (c ≤ 70)
        all_goals (try (exfalso; simp only [decide_eq_true_iff, decide_eq_false_iff_not] at f0 f1 f2 f3 f4 f5; omega))
        all_goals
          go_wp2
          go_ret2
          exact ⟨ret_two HE2.out.symm HE1.out.symm, rfl⟩
    · obtain rfl : k = 4 := by omega
      have HR : Hid _ := ok4_true HN.out
      go_wp2
      go_ret2
      exact ⟨ret_two HR.out.2.symm HR.out.1.symm, rfl⟩

set_option maxHeartbeats 400000 in
theorem zz_short (a : Option Addr) (len cap : Nat) (h : len < 4) (w : World) :
    Calls Try.prog 7 #[.slice a len cap] w fun e w' => e = .returned (.tuple #[.int .i32 0, .bool false]) ∧ w' = w := by
  go_enter Try.func7, Try.ntmps7
  go_wp2_with (go_at_call 10; refine (hex4_short a len cap h _).mono ?_; rintro e w' ⟨rfl, rfl⟩)
  go_ret2
  exact ⟨rfl, rfl⟩
set_option maxHeartbeats 400000 in
theorem zz_long (b off len cap : Nat) (z : Nat → Int) (h : 4 ≤ len) (hm : len ≤ maxLen) (hcap : len ≤ cap) (hz : ∀ j, j < 4 → 0 ≤ z j ∧ z j ≤ 255) (w : World) (hc : ∀ j, j < 4 → w.cell? ⟨b, off + j, none⟩ = some (.int .u8 (z j))) :
    Calls Try.prog 7 #[.slice (some ⟨b, off, none⟩) len cap] w fun e w' => e = .returned (.tuple #[.int .i32 (val4 z), .bool (ok4 z)]) ∧ w' = w := by
  have H := hex4_long b off len cap z h hm hcap hz w hc
  have HH : Hid _ := H
  clear h hm hcap hz hc H
  go_enter Try.func7, Try.ntmps7
  go_wp2_with fail
  refine Calls.mono HH.out ?_
  rintro e w' ⟨rfl, rfl⟩
  go_wp2
  go_ret2
  exact ⟨rfl, rfl⟩
set_option maxHeartbeats 400000 in
theorem model_short (a : Option Addr) (len cap : Nat) (h : len < 4) (w : World) :
    Calls Try.prog 6 #[.slice a len cap] w fun e w' => e = .returned (.tuple #[.int .i32 0, .bool false]) ∧ w' = w := by
  go_enter Try.func6, Try.ntmps6
  go_wp2
  go_ret2
  exact ⟨rfl, rfl⟩
set_option maxHeartbeats 800000 in
theorem model_long (b off len cap : Nat) (z : Nat → Int) (h : 4 ≤ len) (hm : len ≤ maxLen) (hz : ∀ j, j < 4 → 0 ≤ z j ∧ z j ≤ 255) (w : World) (hc : ∀ j, j < 4 → w.cell? ⟨b, off + j, none⟩ = some (.int .u8 (z j))) :
    Calls Try.prog 6 #[.slice (some ⟨b, off, none⟩) len cap] w fun e w' => e = .returned (.tuple #[.int .i32 (val4 z), .bool (ok4 z)]) ∧ w' = w := by
  unfold maxLen at hm
  go_enter Try.func6, Try.ntmps6
  go_wp2
  go_loop [4, 5, 6] (fun t u i => ∃ k : Nat, k ≤ 4 ∧ i = .int .i64 (k : Int) ∧ t = .int .i32 (tot z k) ∧ u = .int .i32 (4096 / 16 ^ k) ∧ ∀ j, j < k → 0 ≤ hxv (z j)) (fun _ _ i => (4 - intOf i).toNat)
  case atStart => exact ⟨0, Nat.zero_le _, rfl, rfl, rfl, fun j hj => by omega⟩
  case round =>
    obtain ⟨k, hk, rfl, rfl, rfl, hno⟩ := hrel
    have HN : Hid _ := hno
    clear hno
    by_cases hlt : k < 4
    · have hcell := hc k hlt
      have hzb := hz k hlt
      have hkI : (k : Int) < 4 := by omega
      have hlen : (k : Int) < (len : Int) := by omega
      have hd := digit_any (z k) hzb.1 hzb.2
      have HD : Hid _ := hd
      have hvb := hxv_bd (z k)
      have HF : Hid (hxv (z k) = -1 → ok4 z = false ∧ val4 z = 0) := fun e => ok4_false hlt e
      have HK : Hid (0 ≤ hxv (z k) → ∀ j, j < k + 1 → 0 ≤ hxv (z j)) := fun e j hj => by
        by_cases e' : j = k
        · rw [e']; exact e
        · exact HN.out j (by omega)
      clear hd hc hz
      by_cases hneg : hxv (z k) = -1
      · have HE := HF.out hneg
        have HE1 : Hid _ := HE.1
        have HE2 : Hid _ := HE.2
        have hlt0 : hxv (z k) < 0 := by omega
        clear HE hneg
        go_wp2_with (go_at_call 9; refine (HD.out _).mono ?_; rintro e w' ⟨rfl, rfl⟩)
        go_ret2
        exact ⟨ret_two HE2.out.symm HE1.out.symm, rfl⟩
      · have hge : 0 ≤ hxv (z k) := by omega
        have HK' : Hid _ := HK.out hge
        have b0 : Hid (∀ j, j < k → 0 ≤ hxv (z j) ∧ hxv (z j) ≤ 15) := fun j hj => ⟨HN.out j hj, (hxv_bd (z j)).2⟩
        clear HF hneg
        have h4 : k = 0 ∨ k = 1 ∨ k = 2 ∨ k = 3 := by omega
        rcases h4 with rfl | rfl | rfl | rfl
        · skip
          have HT : Hid (tot z 1 = hxv (z 0) * 4096) := rfl
          rw [show tot z 0 = 0 from rfl]
          rw [Nat.add_zero] at hcell
          clear b0
          generalize hxv (z 0) = v0 at *
          generalize z 0 = c at *
          go_wp2_with (go_at_call 9; refine (HD.out _).mono ?_; rintro e w' ⟨rfl, rfl⟩)
          go_round
          case rel => exact ⟨1, by omega, by go_num, by rw [HT.out], rfl, HK'.out⟩
          case measure => simp [intOf] <;> omega
        · skip
          have HT : Hid (tot z 2 = hxv (z 0) * 4096 + hxv (z 1) * 256) := rfl
          rw [show tot z 1 = hxv (z 0) * 4096 from rfl]
          have bb := b0.out 0 (by omega)
          clear b0
          generalize hxv (z 0) = v0 at *
          generalize hxv (z 1) = v1 at *
          generalize z 1 = c at *
          go_wp2_with (go_at_call 9; refine (HD.out _).mono ?_; rintro e w' ⟨rfl, rfl⟩)
          go_round
          case rel => exact ⟨2, by omega, by go_num, by rw [HT.out], rfl, HK'.out⟩
          case measure => simp [intOf] <;> omega
        · skip
          have HT : Hid (tot z 3 = hxv (z 0) * 4096 + hxv (z 1) * 256 + hxv (z 2) * 16) := rfl
          rw [show tot z 2 = hxv (z 0) * 4096 + hxv (z 1) * 256 from rfl]
          have bb := b0.out 0 (by omega)
          have b1 := b0.out 1 (by omega)
          clear b0
          generalize hxv (z 0) = v0 at *
          generalize hxv (z 1) = v1 at *
          generalize hxv (z 2) = v2 at *
          generalize z 2 = c at *
          go_wp2_with (go_at_call 9; refine (HD.out _).mono ?_; rintro e w' ⟨rfl, rfl⟩)
          go_round
          case rel => exact ⟨3, by omega, by go_num, by rw [HT.out], rfl, HK'.out⟩
          case measure => simp [intOf] <;> omega
        · skip
          have HT : Hid (tot z 4 = hxv (z 0) * 4096 + hxv (z 1) * 256 + hxv (z 2) * 16 + hxv (z 3) * 1) := rfl
          rw [show tot z 3 = hxv (z 0) * 4096 + hxv (z 1) * 256 + hxv (z 2) * 16 from rfl]
          have bb := b0.out 0 (by omega)
          have b1 := b0.out 1 (by omega)
          have b2 := b0.out 2 (by omega)
          clear b0
          generalize hxv (z 0) = v0 at *
          generalize hxv (z 1) = v1 at *
          generalize hxv (z 2) = v2 at *
          generalize hxv (z 3) = v3 at *
          generalize z 3 = c at *
          go_wp2_with (go_at_call 9; refine (HD.out _).mono ?_; rintro e w' ⟨rfl, rfl⟩)
          go_round
          case rel => exact ⟨4, by omega, by go_num, by rw [HT.out, Int.mul_one], rfl, HK'.out⟩
          case measure => simp [intOf] <;> omega
    · obtain rfl : k = 4 := by omega
      have HR : Hid _ := ok4_true HN.out
      have HT : Hid _ := tot_acc z
      go_wp2
      go_ret2
      exact ⟨ret_two (by rw [HR.out.2]; exact HT.out) HR.out.1.symm, rfl⟩
--END
end Go.Proofs.Qxb6632226a
