import Derived.Test.Qxb6632331aRows
import Derived.WalkKit
import Derived.WalkSpells
import Derived.WalkLawsBesides
import Derived.BigQuiet
import Derived.Below
namespace Go.Proofs.Qxb6632331a
open Go.RowKit
set_option linter.unusedSimpArgs false
set_option linter.unusedVariables false
--BEGIN
theorem ret_int {k : IntKind} {a b : Int} (h : a = b) : Ending.returned (.int k a) = .returned (.int k b) := by rw [h]
/-- A power of two. -/
def pw (l : Nat) : Int := 2 ^ l
theorem pw_succ (l : Nat) : pw (l + 1) = 2 * pw l := by unfold pw; rw [Int.pow_succ]; omega
theorem pw_pos (l : Nat) : 1 ≤ pw l := by
  induction l with
  | zero => decide
  | succ l ih => rw [pw_succ]; omega
theorem pw_mono {l m : Nat} (h : l ≤ m) : pw l ≤ pw m := by
  induction m with
  | zero => obtain rfl : l = 0 := by omega
            exact Int.le_refl _
  | succ m ih =>
    by_cases e : l = m + 1
    · rw [e]; exact Int.le_refl _
    · have := ih (by omega)
      have := pw_pos m
      rw [pw_succ]; omega
theorem pw_top {l : Nat} (h : l ≤ 62) : pw l ≤ 4611686018427387904 := pw_mono (m := 62) h
set_option maxHeartbeats 400000 in
theorem clear_any (L : Nat) (N : Int) (hL : L ≤ 62) (h0 : 0 ≤ N) (h1 : N < pw L) (hm : pw L + N ≤ 4611686018427387904) (w : World) :
    Calls Try.prog 7 #[.int .i64 (pw L + N)] w fun e w' => e = .returned (.int .i64 N) ∧ w' = w := by
  have hpL := pw_pos L
  have HN : Hid (N < pw L) := h1
  have HE : Hid (∀ n, n = pw L + N → n - pw L = N) := fun n e => by omega
  go_enter Try.func7, Try.ntmps7
  generalize hn : pw L + N = n at *
  have hn1 : 1 ≤ n := by omega
  have HI : Hid (∀ j, j < L → 2 * pw j ≤ n) := fun j hj => by
    have := pw_mono (show j + 1 ≤ L from hj)
    rw [pw_succ] at this
    omega
  have HQ : Hid (n < 2 * pw L) := by show _ < _; omega
  have HEn : Hid (n - pw L = N) := HE.out n rfl
  clear hn HE h1 hpL
  go_wp2
  go_loop [3] (fun p => ∃ j : Nat, j ≤ L ∧ p = .int .i64 (pw j)) (fun p => (n - intOf p).toNat)
  case atStart => exact ⟨0, Nat.zero_le _, rfl⟩
  case round =>
    obtain ⟨j, hj, rfl⟩ := hrel
    by_cases hlt : j < L
    · have hp := pw_pos j
      have h2 := HI.out j hlt
      have HS : Hid _ := pw_succ j
      generalize pw j = p at *
      have hle : p ≤ n / 2 := by omega
      go_wp2
      go_round
      case rel => exact ⟨j + 1, by omega, by rw [HS.out]; go_num⟩
      case measure => simp [intOf] <;> omega
    · obtain rfl : j = L := by omega
      have hp := pw_pos j
      have h2 := HQ.out
      have h3 := HEn.out
      clear HI HN
      generalize pw j = p at *
      have hle : ¬ p ≤ n / 2 := by omega
      go_wp2
      go_ret
      exact ⟨rfl, rfl⟩
theorem sh_i64 {l : Nat} (h : l ≤ 62) : IntKind.i64.wrap (2 ^ l) = pw l := by
  have h1 := pw_top h
  have h2 := pw_pos l
  show IntKind.i64.wrap (pw l) = pw l
  generalize pw l = p at *
  simp [IntKind.wrap, IntKind.bits, IntKind.signed]
  omega
/-- The spread's block: level and next. -/
def St (w : World) (b l : Nat) (N : Int) : Prop := w.heap[b]? = some (.cells #[.int .u64 l, .int .i64 N] 35 (0, 0))
/-- Below B the world is as it was; nothing is frozen anew. -/
def Kp (B : Nat) (w w' : World) : Prop := Below B w w' ∧ ∀ a, w'.frozen? a = w.frozen? a
theorem Kp.refl (B : Nat) (w : World) : Kp B w w := ⟨Below.refl _ _, fun _ => rfl⟩
theorem Kp.trans {B : Nat} {a b c : World} (h : Kp B a b) (k : Kp B b c) : Kp B a c := ⟨h.1.trans k.1, fun x => (k.2 x).trans (h.2 x)⟩
theorem Kp.drewN {B : Nat} {a w : World} (h : Kp B a w) (n : Nat) : Kp B a (w.drewN n) := ⟨below_drewN h.1 n, h.2⟩
theorem Kp.setCell {B : Nat} {a w : World} (h : Kp B a w) {p : Addr} (hp : B ≤ p.block) (u : Value) : Kp B a (w.setCell p u) := ⟨h.1.setCell hp u, fun x => by rw [World.frozen?_setCell]; exact h.2 x⟩
theorem Kp.grown {w w' : World} (h : Kp w.heap.size w w') : Grown w w' := ⟨h.1.frame _, h.2, h.1.size⟩
theorem St.new (l : Nat) (N : Int) (w : World) : St (w.alloc (.cells #[.int .u64 l, .int .i64 N] 35)) w.heap.size l N := (MapKept.heap_alloc w _).1
theorem St.drewN {w : World} {b l : Nat} {N : Int} (h : St w b l N) (n : Nat) : St (w.drewN n) b l N := h
theorem St.next {w : World} {b l : Nat} {N : Int} (h : St w b l N) (M : Int) : St (w.setCell ⟨b, 1, none⟩ (.int .i64 M)) b l M := by
  unfold St
  rw [heap_setCell_same w b 1 _ _ _ h]
  rfl
theorem St.level {w : World} {b l : Nat} {N : Int} (h : St w b l N) (m : Nat) : St (w.setCell ⟨b, 0, none⟩ (.int .u64 m)) b m N := by
  unfold St
  rw [heap_setCell_same w b 0 _ _ _ h]
  rfl
theorem new_any (l : Nat) (N : Int) (w : World) :
    Calls Try.prog 5 #[.int .u64 l, .int .i64 N] w fun e w' => e = .returned (.pointer (some ⟨w.heap.size, 0, none⟩)) ∧ St w' w.heap.size l N ∧ Kp w.heap.size w w' := by
  have H1 : Hid _ := St.new l N w
  have H2 : Hid (Kp w.heap.size w (w.alloc (.cells #[.int .u64 l, .int .i64 N] 35))) := ⟨(Below.refl _ _).alloc (Nat.le_refl _) _, frozen?_alloc_cells w _ _⟩
  go_enter Try.func5, Try.ntmps5
  go_wp2
  go_ret
  exact ⟨rfl, H1.out, H2.out⟩
theorem st_cell0 {w : World} {b l : Nat} {N : Int} (h : St w b l N) : w.cell? ⟨b, 0, none⟩ = some (.int .u64 l) := by
  simp [World.cell?, show w.heap[b]? = _ from h]
theorem st_cell1 {w : World} {b l : Nat} {N : Int} (h : St w b l N) : w.cell? ⟨b, 1, none⟩ = some (.int .i64 N) := by
  simp [World.cell?, show w.heap[b]? = _ from h]
theorem st_fr {w : World} {b l : Nat} {N : Int} (h : St w b l N) (j : Nat) : w.frozen? ⟨b, j, none⟩ = false := by
  simp [World.frozen?, show w.heap[b]? = _ from h]
theorem ret_two {j k : IntKind} {a b c d : Int} (h : a = c) (h' : b = d) : Ending.returned (.tuple #[.int j a, .int k b]) = .returned (.tuple #[.int j c, .int k d]) := by rw [h, h']
/-- The state behind a split. -/
def nl (l : Nat) (N : Int) : Nat := if N + 1 = pw l then l + 1 else l
def nn (l : Nat) (N : Int) : Int := if N + 1 = pw l then 0 else N + 1
theorem split_any (b l : Nat) (N : Int) (hl : l ≤ 62) (h0 : 0 ≤ N) (h1 : N < pw l) (w : World) (hc : St w b l N) :
    Calls Try.prog 11 #[.pointer (some ⟨b, 0, none⟩)] w fun e w' => e = .returned (.tuple #[.int .i64 N, .int .i64 (pw l + N)]) ∧ St w' b (nl l N) (nn l N) ∧ ∀ B, B ≤ b → Kp B w w' := by
  have hsh := sh_i64 hl
  have htop := pw_top hl
  have hc0 := st_cell0 hc
  have hc1 := st_cell1 hc
  have hf0 := st_fr hc 0
  have hf1 := st_fr hc 1
  have HC : Hid (St w b l N) := hc
  clear hc
  have HA : Hid (N + pw l = pw l + N) := Int.add_comm _ _
  by_cases ht : N + 1 = pw l
  · have e1 : nl l N = l + 1 := by simp [nl, ht]
    have e2 : nn l N = 0 := by simp [nn, ht]
    rw [e1, e2]
    clear e1 e2
    generalize pw l = p at *
    subst ht
    go_enter Try.func11, Try.ntmps11
    go_wp2
    go_quiet (fail)
    go_wp2
    go_quiet (fail)
    go_wp2
    go_ret2
    refine ⟨ret_two rfl HA.out, ?_, fun B hB => ?_⟩
    · exact ((((HC.out.drewN _).next _).drewN _).level (l + 1)).next 0
    · exact ((((((Kp.refl B w).drewN _).setCell (p := ⟨b, 1, none⟩) hB _).drewN _).setCell (p := ⟨b, 0, none⟩) hB _).setCell (p := ⟨b, 1, none⟩) hB _)
  · have e1 : nl l N = l := by simp [nl, ht]
    have e2 : nn l N = N + 1 := by simp [nn, ht]
    rw [e1, e2]
    clear e1 e2
    have hq : (N + 1 == pw l) = false := beq_eq_false_iff_ne.2 ht
    go_enter Try.func11, Try.ntmps11
    go_wp2
    go_quiet (fail)
    go_wp2
    go_quiet (fail)
    go_wp2
    go_ret2
    refine ⟨ret_two rfl HA.out, ?_, fun B hB => ?_⟩
    · exact ((HC.out.drewN _).next _).drewN _
    · exact ((((Kp.refl B w).drewN _).setCell (p := ⟨b, 1, none⟩) hB _).drewN _)
theorem zsplit_any (b l : Nat) (N : Int) (hl : l ≤ 62) (h0 : 0 ≤ N) (h1 : N < pw l) (w : World) (hc : St w b l N) :
    Calls Try.prog 6 #[.pointer (some ⟨b, 0, none⟩)] w fun e w' => e = .returned (.tuple #[.int .i64 N, .int .i64 (pw l + N)]) ∧ St w' b (nl l N) (nn l N) ∧ ∀ B, B ≤ b → Kp B w w' := by
  have H : Hid _ := split_any b l N hl h0 h1 w hc
  clear hl h0 h1 hc
  go_enter Try.func6, Try.ntmps6
  go_wp2_with (go_at_call 11; refine Calls.mono H.out ?_; rintro e wq ⟨rfl, hs⟩; have HS : Hid _ := hs; clear hs)
  go_ret2
  exact ⟨rfl, HS.out⟩
theorem level_any (b l : Nat) (N : Int) (w : World) (hc : St w b l N) :
    Calls Try.prog 8 #[.pointer (some ⟨b, 0, none⟩)] w fun e w' => e = .returned (.int .u64 l) ∧ w' = w := by
  have hc0 := st_cell0 hc
  clear hc
  go_enter Try.func8, Try.ntmps8
  go_wp2
  go_ret
  exact ⟨rfl, rfl⟩
theorem next_any (b l : Nat) (N : Int) (w : World) (hc : St w b l N) :
    Calls Try.prog 9 #[.pointer (some ⟨b, 0, none⟩)] w fun e w' => e = .returned (.int .i64 N) ∧ w' = w := by
  have hc1 := st_cell1 hc
  clear hc
  go_enter Try.func9, Try.ntmps9
  go_wp2
  go_ret
  exact ⟨rfl, rfl⟩
/-- The documented rule. -/
def bk (l : Nat) (N h : Int) : Int := if h % pw l < N then h % pw (l + 1) else h % pw l
theorem sh_u64 {l : Nat} (h : l ≤ 63) : IntKind.u64.wrap (2 ^ l) = pw l := by
  have h1 : pw l ≤ pw 63 := pw_mono h
  have h3 : pw 63 = 9223372036854775808 := rfl
  have h2 := pw_pos l
  show IntKind.u64.wrap (pw l) = pw l
  generalize pw l = p at *
  simp [IntKind.wrap, IntKind.bits, IntKind.signed]
  omega
theorem mask {l : Nat} {h : Int} (hl : l ≤ 63) (h0 : 0 ≤ h) (h1 : h ≤ 18446744073709551615) : bits .and .u64 h (pw l - 1) = h % pw l := by
  obtain ⟨n, rfl⟩ : ∃ n : Nat, h = n := ⟨h.toNat, by omega⟩
  have e : pw l = ((2 ^ l : Nat) : Int) := by simp [pw]
  have hp : pw l ≤ pw 63 := pw_mono hl
  have h3 : pw 63 = 9223372036854775808 := rfl
  have h2 := pw_pos l
  rw [e] at hp h2 ⊢
  rw [show (((2 ^ l : Nat) : Int) - 1) = ((2 ^ l - 1 : Nat) : Int) by omega, u64_and_nat n (2 ^ l - 1) (by omega) (by omega), Nat.and_two_pow_sub_one_eq_mod]
  exact Int.natCast_emod _ _
theorem bucket_any (l : Nat) (N h : Int) (hl : l ≤ 62) (h0 : 0 ≤ N) (h1 : N ≤ 4611686018427387904) (hh : 0 ≤ h) (hh1 : h ≤ 18446744073709551615) (w : World) :
    Calls Try.prog 10 #[.int .u64 l, .int .i64 N, .int .u64 h] w fun e w' => e = .returned (.int .u64 (bk l N h)) ∧ w' = w := by
  have hs := sh_u64 (show l ≤ 63 by omega)
  have hs1 := sh_u64 (show l + 1 ≤ 63 by omega)
  have hp := pw_pos l
  have hq := pw_pos (l + 1)
  have hm := mask (l := l) (by omega) hh hh1
  have hm1 := mask (l := l + 1) (by omega) hh hh1
  have htop := pw_top hl
  have htop1 : pw (l + 1) ≤ 9223372036854775808 := pw_mono (m := 63) (by omega)
  by_cases ht : h % pw l < N
  · have HB : Hid (h % pw (l + 1) = bk l N h) := by
      show _ = _
      simp [bk, ht]
    go_enter Try.func10, Try.ntmps10
    go_wp2
    go_ret
    exact ⟨ret_int HB.out, rfl⟩
  · have HB : Hid (h % pw l = bk l N h) := by
      show _ = _
      simp [bk, ht]
    go_enter Try.func10, Try.ntmps10
    go_wp2
    go_ret
    exact ⟨ret_int HB.out, rfl⟩
theorem clear_eq (n : Int) (L : Nat) (N : Int) (hn : n = pw L + N) (h0 : 0 ≤ N) (h1 : N < pw L) (hm : n ≤ 4611686018427387904) (w : World) :
    Calls Try.prog 7 #[.int .i64 n] w fun e w' => e = .returned (.int .i64 N) ∧ w' = w := by
  subst hn
  refine clear_any L N ?_ h0 h1 hm w
  by_cases e : L ≤ 62
  · exact e
  · have h : pw 63 ≤ pw L := pw_mono (by omega)
    have h3 : pw 63 = 9223372036854775808 := rfl
    omega
theorem nx_sum (l : Nat) (N : Int) : pw (nl l N) + nn l N = pw l + N + 1 := by
  unfold nl nn
  split
  · rw [pw_succ]; omega
  · omega
theorem nx_ge {l : Nat} {N : Int} (h : 0 ≤ N) : 0 ≤ nn l N := by
  unfold nn
  split <;> omega
theorem nx_lt {l : Nat} {N : Int} (h : N < pw l) : nn l N < pw (nl l N) := by
  unfold nn nl
  split
  · have := pw_pos (l + 1)
    omega
  · omega
theorem lev {l m : Nat} {N : Int} (h : 0 ≤ N) (h1 : pw l + N < pw (m + 1)) : l ≤ m := by
  by_cases e : l ≤ m
  · exact e
  · have := pw_mono (show m + 1 ≤ l by omega)
    omega
set_option maxHeartbeats 1000000 in
theorem zero_walk (n : Int) (w : World) :
    Calls Try.prog 3 #[.int .i64 n] w fun e w' => e = .returned (.bool true) ∧ Grown w w' := by
  by_cases hneg : n < 0
  · go_enter Try.func3, Try.ntmps3
    go_wp2
    go_ret
    exact ⟨rfl, Grown.refl _⟩
  by_cases hbig : 65536 < n
  · go_enter Try.func3, Try.ntmps3
    go_wp2
    go_ret
    exact ⟨rfl, Grown.refl _⟩
  go_enter Try.func3, Try.ntmps3
  go_wp2_with (go_at_call 5; refine (new_any 0 0 _).mono ?_; rintro e wq ⟨rfl, hs⟩; have HS : Hid _ := hs; clear hs)
  go_loopw [4] (fun i wr => ∃ (k : Int) (l : Nat) (N : Int), 0 ≤ k ∧ k ≤ n ∧ i = .int .i64 k ∧ 0 ≤ N ∧ N < pw l ∧ pw l + N = k + 1 ∧ St wr w.heap.size l N ∧ Kp w.heap.size w wr) (fun i _ => (n - intOf i).toNat)
  case atStart => exact ⟨0, 0, 0, by omega, by omega, rfl, by omega, by decide, by decide, HS.out⟩
  case round =>
    clear HS
    obtain ⟨k, l, N, hk0, hkn, rfl, hN, hlt, hsum, hS, hK⟩ := hrel
    have hl : l ≤ 16 := lev hN (by rw [hsum, show pw (16 + 1) = 131072 from rfl]; omega)
    by_cases hr : k < n
    · have HC : Hid _ := zsplit_any w.heap.size l N (by omega) hN hlt wr hS
      have HD : Hid (∀ w, Calls Try.prog 7 #[.int .i64 (k + 1)] w fun e w' => e = .returned (.int .i64 N) ∧ w' = w) := fun w => clear_eq (k + 1) l N hsum.symm hN hlt (by omega) w
      have HR : Hid (∀ w', (St w' w.heap.size (nl l N) (nn l N) ∧ ∀ B, B ≤ w.heap.size → Kp B wr w') → 0 ≤ nn l N ∧ nn l N < pw (nl l N) ∧ pw (nl l N) + nn l N = (k + 1) + 1 ∧ St w' w.heap.size (nl l N) (nn l N) ∧ Kp w.heap.size w w') := fun w' h => ⟨nx_ge hN, nx_lt hlt, by rw [nx_sum]; omega, h.1, hK.trans (h.2 _ (Nat.le_refl _))⟩
      clear hS hK
      generalize pw l + N = t at *
      subst hsum
      clear hlt hl
      go_wp2_with (first | (go_at_call 6; refine Calls.mono HC.out ?_; rintro e wq ⟨rfl, hs⟩; have HS : Hid _ := HR.out _ hs; clear hs) | (go_at_call 7; refine (HD.out _).mono ?_; rintro e wq ⟨rfl, hq⟩; subst wq))
      go_roundw
      case rel => exact ⟨k + 1, _, _, by omega, by omega, by go_num, HS.out⟩
      case measure => simp [intOf] <;> omega
    · obtain rfl : k = n := by omega
      have hsh := sh_i64 (show l ≤ 62 by omega)
      have hp := pw_pos l
      have htop := pw_top (show l ≤ 62 by omega)
      have HC8 : Hid _ := level_any w.heap.size l N wr hS
      have HC9 : Hid _ := next_any w.heap.size l N wr hS
      have HG : Hid (Grown w wr) := hK.grown
      clear hS hK
      go_wp2_with (first | (go_at_call 8; refine Calls.mono HC8.out ?_; rintro e wq ⟨rfl, hq⟩; subst wq) | (go_at_call 9; refine Calls.mono HC9.out ?_; rintro e wq ⟨rfl, hq⟩; subst wq))
      go_ret
      exact ⟨rfl, HG.out⟩
--END
end Go.Proofs.Qxb6632331a
