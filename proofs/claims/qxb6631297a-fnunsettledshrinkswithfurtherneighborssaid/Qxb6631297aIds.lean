/-
  nodeid.ID's halves, fromHalves, Add, Sub, WALKED.
-/
import Derived.Test.Qxb6631297aWords
import Derived.Deep.RegionHeld3
import Derived.Deep.RegionWith
namespace Go.Proofs.Qxb6631297a
open Go.RowKit
set_option maxHeartbeats 800000 in
theorem halves_any (n : Nat) (hn : n < M128) (w : World) :
    Calls Try.prog 27 #[.agg (bs n)] w fun e w' => e = .returned (.tuple #[.int .u64 (hiW n : Int), .int .u64 (loW n : Int)]) ∧ Below w.heap.size w w' := by
  have hN := At.new w 27 n
  have hB := (Below.refl w.heap.size w).alloc (Nat.le_refl _) (.cells (bs n) 27)
  go_enter Try.func27, Try.ntmps27
  go_wp2
  go_region_held3 (fun w' => Below (w.alloc (.cells (bs n) 27)).heap.size (w.alloc (.cells (bs n) 27)) w')
    (first | exact Below.refl _ _ | exact Below.drew (Below.refl _ _) | exact bthen (by assumption) (by assumption) | exact Below.drew (by assumption))
    (first | (go_at_call_of 33 (Value.slice (some ⟨w.heap.size, 0, none⟩) 8 16); refine (u64_hi 27 w.heap.size n 16 hn _ ?_).mono ?_; (exact hN.kept (by assumption)); rintro e w1 ⟨rfl, hb1⟩) | (go_at_call_of 33 (Value.slice (some ⟨w.heap.size, 8, none⟩) 8 8); refine (u64_lo 27 w.heap.size n 8 _ ?_).mono ?_; (exact hN.kept (by assumption)); rintro e w1 ⟨rfl, hb1⟩))
  go_wp2
  go_ret2
  exact ⟨rfl, bthen hB (by assumption)⟩

theorem hl_join (h l : Nat) : hiW (h * 18446744073709551616 + loW 0) * 18446744073709551616 + l = h * 18446744073709551616 + l := by
  unfold hiW loW; omega
set_option maxHeartbeats 800000 in
theorem from_any (h l : Nat) (hh : h < 18446744073709551616) (hl : l < 18446744073709551616) (w : World) :
    Calls Try.prog 29 #[.int .u64 h, .int .u64 l] w fun e w' => e = .returned (.agg (bs (h * 18446744073709551616 + l))) ∧ Below w.heap.size w w' := by
  have hR := (At.new w 27 0).alloc (.cells (bs 0) 27)
  have hN := At.new' (w.alloc (.cells (bs 0) 27)) 27 0 (g := w.heap.size + 1) (by simp)
  have hB := ((Below.refl w.heap.size w).alloc (Nat.le_refl _) (.cells (bs 0) 27)).alloc (by simp) (.cells (bs 0) 27)
  have hz : ((w.alloc (.cells (bs 0) 27)).alloc (.cells (bs 0) 27)).heap.size = w.heap.size + 2 := by simp
  go_enter Try.func29, Try.ntmps29
  go_wp2
  simp only [bs_zero]
  generalize (w.alloc (.cells (bs 0) 27)).alloc (.cells (bs 0) 27) = W at *
  go_region_held3 (fun _ => True) (trivial)
    (first | (go_at_call 34; refine (put_hi 27 (w.heap.size + 1) 0 16 h hh _ ?_).mono ?_; (exact hN.drew); rintro e w1 ⟨rfl, hA1, hg1⟩))
  have hR1 := hR.drew.grown hg1 (by simp)
  have hB1 := hB.drew.grown hg1 (by simp <;> omega) (by simp <;> omega)
  have hz1 := hg1.size
  go_wp2
  go_region_held3 (fun _ => True) (trivial)
    (first | (go_at_call 34; refine (put_lo 27 (w.heap.size + 1) (h * 18446744073709551616 + loW 0) 8 l hl _ ?_).mono ?_; (exact hA1.drew); rintro e w2 ⟨rfl, hA2, hg2⟩))
  have hR2 := hR1.drew.grown hg2 (by simp)
  have hB2 := hB1.drew.grown hg2 (by simp at hz1; simp <;> omega) (by simp <;> omega)
  rw [hl_join h l] at hA2
  go_wp2_with (first | (refine wpList_ld rfl 27 _ rfl .b (w.heap.size + 1) rfl 27 _ hA2 ?_) | (refine wpList_st rfl 27 _ _ rfl .b w.heap.size _ rfl rfl 27 _ hR2 ?_))
  exact bodyPost_ret (results_id Try.results29 .b _ _ w.heap.size 27 _ rfl (hR2.setRow _)) rfl ⟨rfl, below_setRow' hB2 (by omega) _⟩
def sumW (x y c : Nat) : Nat := (x + y + c) % 18446744073709551616
def carW (x y c : Nat) : Nat := (x + y + c) / 18446744073709551616
def difW (x y b : Nat) : Nat := (x + 18446744073709551616 - y - b) % 18446744073709551616
def borW (x y b : Nat) : Nat := if x < y + b then 1 else 0
theorem sumW_lt (x y c : Nat) : sumW x y c < 18446744073709551616 := Nat.mod_lt _ (by decide)
theorem difW_lt (x y c : Nat) : difW x y c < 18446744073709551616 := Nat.mod_lt _ (by decide)
theorem add_words (n m : Nat) : sumW (hiW n) (hiW m) (carW (loW n) (loW m) 0) * 18446744073709551616 + sumW (loW n) (loW m) 0 = add n m := by
  have e : M128 = 340282366920938463463374607431768211456 := by decide +kernel
  unfold add sumW carW hiW loW
  rw [e] at ⊢
  omega
theorem sub_words {n m : Nat} (hn : n < M128) (hm : m < M128) : difW (hiW n) (hiW m) (borW (loW n) (loW m) 0) * 18446744073709551616 + difW (loW n) (loW m) 0 = sub n m := by
  have e : M128 = 340282366920938463463374607431768211456 := by decide +kernel
  unfold sub difW borW hiW loW
  rw [e] at hn hm ⊢
  split <;> omega
theorem carW_le {n m : Nat} (hn : n < 18446744073709551616) (hm : m < 18446744073709551616) : carW n m 0 ≤ 1 := by unfold carW; omega
theorem borW_le (n m b : Nat) : borW n m b ≤ 1 := by unfold borW; split <;> omega
theorem add64' (x y c : Nat) (hc : c ≤ 1) (w : World) :
    (callFunc 28 #[.int .u64 x, .int .u64 y, .int .u64 c]).run Try.prog w = .ok (.value (.tuple #[.int .u64 (sumW x y c : Int), .int .u64 (carW x y c : Int)])) w := add64 x y c hc w
theorem add64_0 (x y : Nat) (w : World) :
    (callFunc 28 #[.int .u64 x, .int .u64 y, .int .u64 0]).run Try.prog w = .ok (.value (.tuple #[.int .u64 (sumW x y 0 : Int), .int .u64 (carW x y 0 : Int)])) w := add64 x y 0 (by decide) w
theorem sub64' (x y c : Nat) (hc : c ≤ 1) (w : World) :
    (callFunc 30 #[.int .u64 x, .int .u64 y, .int .u64 c]).run Try.prog w = .ok (.value (.tuple #[.int .u64 (difW x y c : Int), .int .u64 (borW x y c : Int)])) w := sub64 x y c hc w
theorem sub64_0 (x y : Nat) (w : World) :
    (callFunc 30 #[.int .u64 x, .int .u64 y, .int .u64 0]).run Try.prog w = .ok (.value (.tuple #[.int .u64 (difW x y 0 : Int), .int .u64 (borW x y 0 : Int)])) w := sub64 x y 0 (by decide) w

set_option maxHeartbeats 800000 in
theorem Add_any (n m : Nat) (hn : n < M128) (hm : m < M128) (w : World) :
    Calls Try.prog 23 #[.agg (bs n), .agg (bs m)] w fun e w' => e = .returned (.agg (bs (add n m))) ∧ Below w.heap.size w w' := by
  have hA := ((At.new w 27 n).alloc (.cells (bs m) 27)).alloc (.cells (bs 0) 27)
  have hC := (At.new' (w.alloc (.cells (bs n) 27)) 27 m (g := w.heap.size + 1) (by simp)).alloc (.cells (bs 0) 27)
  have hR := At.new' ((w.alloc (.cells (bs n) 27)).alloc (.cells (bs m) 27)) 27 0 (g := w.heap.size + 1 + 1) (by simp)
  have hB := (((Below.refl w.heap.size w).alloc (Nat.le_refl _) (.cells (bs n) 27)).alloc (by simp) (.cells (bs m) 27)).alloc (by simp; omega) (.cells (bs 0) 27)
  have hc : Hid _ := carW_le (lo_lt n) (lo_lt m)
  go_enter Try.func23, Try.ntmps23
  go_wp2_with (first | (refine wpList_al rfl 27 rfl .b ?_) | (refine wpList_ld rfl 27 _ rfl .b w.heap.size rfl 27 n hA ?_))
  refine (halves_any n hn _).mono ?_
  rintro e w1 ⟨rfl, hb1⟩
  have hC1 := hC.kept hb1
  have hR1 := hR.kept hb1
  have hB1 := bthen hB hb1
  clear hA hC hR hB hb1
  go_wp2_with (first | (refine wpList_ld rfl 27 _ rfl .b (w.heap.size + 1) rfl 27 m hC1 ?_))
  refine (halves_any m hm _).mono ?_
  rintro e w2 ⟨rfl, hb2⟩
  have hR2 := hR1.kept hb2
  have hB2 := bthen hB1 hb2
  clear hC1 hR1 hB1 hb2
  go_wp2_with (first | simp only [add64_0] | simp only [add64' _ _ _ hc.out])
  refine (from_any _ _ (sumW_lt _ _ _) (sumW_lt _ _ _) _).mono ?_
  rintro e w3 ⟨rfl, hb3⟩
  have hR3 := hR2.kept hb3
  have hB3 := bthen hB2 hb3
  rw [add_words n m]
  go_wp2_with (first | (refine wpList_st rfl 27 _ _ rfl .b (w.heap.size + 1 + 1) _ rfl rfl 27 _ hR3 ?_))
  exact bodyPost_ret (results_id Try.results23 .b _ _ (w.heap.size + 1 + 1) 27 _ rfl (hR3.setRow _)) rfl ⟨rfl, below_setRow' hB3 (by omega) _⟩
set_option maxHeartbeats 800000 in
theorem Sub_any (n m : Nat) (hn : n < M128) (hm : m < M128) (w : World) :
    Calls Try.prog 24 #[.agg (bs n), .agg (bs m)] w fun e w' => e = .returned (.agg (bs (sub n m))) ∧ Below w.heap.size w w' := by
  have hA := ((At.new w 27 n).alloc (.cells (bs m) 27)).alloc (.cells (bs 0) 27)
  have hC := (At.new' (w.alloc (.cells (bs n) 27)) 27 m (g := w.heap.size + 1) (by simp)).alloc (.cells (bs 0) 27)
  have hR := At.new' ((w.alloc (.cells (bs n) 27)).alloc (.cells (bs m) 27)) 27 0 (g := w.heap.size + 1 + 1) (by simp)
  have hB := (((Below.refl w.heap.size w).alloc (Nat.le_refl _) (.cells (bs n) 27)).alloc (by simp) (.cells (bs m) 27)).alloc (by simp; omega) (.cells (bs 0) 27)
  have hc : Hid _ := borW_le (loW n) (loW m) 0
  go_enter Try.func24, Try.ntmps24
  go_wp2_with (first | (refine wpList_al rfl 27 rfl .b ?_) | (refine wpList_ld rfl 27 _ rfl .b w.heap.size rfl 27 n hA ?_))
  refine (halves_any n hn _).mono ?_
  rintro e w1 ⟨rfl, hb1⟩
  have hC1 := hC.kept hb1
  have hR1 := hR.kept hb1
  have hB1 := bthen hB hb1
  clear hA hC hR hB hb1
  go_wp2_with (first | (refine wpList_ld rfl 27 _ rfl .b (w.heap.size + 1) rfl 27 m hC1 ?_))
  refine (halves_any m hm _).mono ?_
  rintro e w2 ⟨rfl, hb2⟩
  have hR2 := hR1.kept hb2
  have hB2 := bthen hB1 hb2
  clear hC1 hR1 hB1 hb2
  go_wp2_with (first | simp only [sub64_0] | simp only [sub64' _ _ _ hc.out])
  refine (from_any _ _ (difW_lt _ _ _) (difW_lt _ _ _) _).mono ?_
  rintro e w3 ⟨rfl, hb3⟩
  have hR3 := hR2.kept hb3
  have hB3 := bthen hB2 hb3
  rw [sub_words hn hm]
  go_wp2_with (first | (refine wpList_st rfl 27 _ _ rfl .b (w.heap.size + 1 + 1) _ rfl rfl 27 _ hR3 ?_))
  exact bodyPost_ret (results_id Try.results24 .b _ _ (w.heap.size + 1 + 1) 27 _ rfl (hR3.setRow _)) rfl ⟨rfl, below_setRow' hB3 (by omega) _⟩
end Go.Proofs.Qxb6631297a
