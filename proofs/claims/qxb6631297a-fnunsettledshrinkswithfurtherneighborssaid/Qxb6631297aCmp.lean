/-
  nodeid.ID's Compare (bytes.Compare, internal/bytealg.Compare) and chord's pow2, WALKED.
-/
import Derived.Test.Qxb6631297aIds
import Derived.Lib.BytesEntry
namespace Go.Proofs.Qxb6631297a
open Go.RowKit
def intsOf (n : Nat) : List Int := (List.range 16).map fun i => (by8 n (15 - i) : Int)
def ba (n : Nat) : ByteArray := ⟨(Lib.bytesOf (intsOf n)).toArray⟩
theorem ba_size (n : Nat) : (ba n).size = 16 := by
  show (Lib.bytesOf (intsOf n)).toArray.size = 16
  simp [Lib.bytesOf, intsOf]
theorem ba_get (n i : Nat) (h : i < 16) : (ba n)[i]! = (by8 n (15 - i)).toUInt8 := by
  have hs : i < (ba n).size := by rw [ba_size]; exact h
  rw [getElem!_pos (ba n) i hs]
  show (Lib.bytesOf (intsOf n)).toArray[i]'_ = _
  simp [Lib.bytesOf, intsOf]
theorem u8_inj {x y : Nat} (hx : x < 256) (hy : y < 256) : x.toUInt8 = y.toUInt8 ↔ x = y := by
  constructor
  · intro h
    have := congrArg UInt8.toNat h
    simp at this
    omega
  · intro h; rw [h]
theorem u8_lt {x y : Nat} (hx : x < 256) (hy : y < 256) : x.toUInt8 < y.toUInt8 ↔ x < y := by
  rw [UInt8.lt_iff_toNat_lt]
  simp
  omega
theorem same_prefix (a b : Nat) (ha : a < M128) (hb : b < M128) : ∀ i, i ≤ 16 → (∀ j, j < i → by8 a (15 - j) = by8 b (15 - j)) → a / 256 ^ (16 - i) = b / 256 ^ (16 - i)
  | 0, _, _ => by rw [Nat.sub_zero, div_full ha, div_full hb]
  | i + 1, hi, h => by
    have ih := same_prefix a b ha hb i (by omega) (fun j hj => h j (by omega))
    have e1 : 16 - i = 15 - i + 1 := by omega
    have e2 : 16 - (i + 1) = 15 - i := by omega
    rw [e1] at ih
    rw [e2]
    exact div_eq_next ih (h i (by omega))
theorem ext_cmp (a b : Nat) (ha : a < M128) (hb : b < M128) : Extern.BytealgCompare.cmp (ba a) (ba b) = cmp a b := by
  unfold Extern.BytealgCompare.cmp
  rw [ba_size, ba_size]
  cases hf : (List.range (min 16 16)).find? (fun i => (ba a)[i]! != (ba b)[i]!) with
  | none =>
    have h0 : a / 256 ^ (16 - 16) = b / 256 ^ (16 - 16) := same_prefix a b ha hb 16 (Nat.le_refl _) (fun j hj => by
      have := List.find?_eq_none.1 hf j (by simp; omega)
      simp only [bne_iff_ne, ne_eq, Decidable.not_not] at this
      rw [ba_get _ _ hj, ba_get _ _ hj, u8_inj (by8_lt _ _) (by8_lt _ _)] at this
      exact this)
    simp at h0
    subst h0
    simp [cmp]
  | some i =>
    have hi : i < 16 := by
      have := List.mem_of_find?_eq_some hf
      simpa using this
    have hp := List.find?_some hf
    have hbefore : ∀ j, j < i → by8 a (15 - j) = by8 b (15 - j) := fun j hj => by
      rw [List.find?_eq_some_iff_append] at hf
      obtain ⟨_, xs, ys, heq, hall⟩ := hf
      have hlen : xs.length = i := by
        have h1 : (List.range (min 16 16))[xs.length]? = some i := by rw [heq]; simp
        rw [List.getElem?_range] at h1
        · simpa using h1
        · have := congrArg List.length heq
          simp at this ⊢
          omega
      have hj' : j ∈ xs := by
        have h1 : (List.range (min 16 16))[j]? = some j := by rw [List.getElem?_range (by simp; omega)]
        rw [heq, List.getElem?_append_left (by omega)] at h1
        exact List.mem_of_getElem? h1
      have := hall j hj'
      simp only [Bool.not_eq_true', bne_eq_false_iff_eq] at this
      rw [ba_get _ _ (by omega), ba_get _ _ (by omega), u8_inj (by8_lt _ _) (by8_lt _ _)] at this
      exact this
    have hd := same_prefix a b ha hb i (by omega) hbefore
    have e1 : 16 - i = 15 - i + 1 := by omega
    rw [e1] at hd
    simp only [bne_iff_ne, ne_eq] at hp
    rw [ba_get _ _ hi, ba_get _ _ hi, u8_inj (by8_lt _ _) (by8_lt _ _)] at hp
    simp only [ba_get _ _ hi, u8_lt (by8_lt _ _) (by8_lt _ _)]
    by_cases hlt : by8 a (15 - i) < by8 b (15 - i)
    · rw [if_pos hlt, cmp_lt hd hlt]
    · rw [if_neg hlt, cmp_gt hd (by omega)]
theorem At.bytes {w : World} {t g n : Nat} (h : At w t g n) (c : Nat) : (Extern.Bytes.bytesOf (.slice (some ⟨g, 0, none⟩) 16 c)).run Try.prog w = .ok (ba n) w := by
  have hl := Lib.run_loadBytesX (P := Try.prog) w (intsOf n) ⟨g, 0, none⟩ .empty (fun j x hj => by
    have hjl : j < 16 := by simpa [intsOf] using (List.getElem?_eq_some_iff.1 hj).1
    have e : (⟨g, 0, none⟩ : Addr).add j = ⟨g, j, none⟩ := by unfold Addr.add; split <;> simp_all
    rw [e, h.cell hjl]
    simp [intsOf, hjl] at hj
    rw [← hj])
  have he : (⟨ByteArray.empty.data ++ (Lib.bytesOf (intsOf n)).toArray⟩ : ByteArray) = ba n := by
    apply ByteArray.ext
    show (#[] : Array UInt8) ++ (Lib.bytesOf (intsOf n)).toArray = (Lib.bytesOf (intsOf n)).toArray
    simp
  rw [he] at hl
  have hlen : (intsOf n).length = 16 := by simp [intsOf]
  rw [hlen] at hl
  exact hl
theorem compare_ext (t t' g g' n m c c' : Nat) (hn : n < M128) (hm : m < M128) (w : World) (hA : At w t g n) (hC : At w t' g' m) :
    (callFunc 36 #[.slice (some ⟨g, 0, none⟩) 16 c, .slice (some ⟨g', 0, none⟩) 16 c']).run Try.prog w = .ok (.value (.int .i64 (cmp n m))) w := by
  rw [run_callFunc_extern Try.func36 (by kernel_rfl) (by kernel_rfl) (by kernel_rfl) (e := Extern.BytealgCompare.compare) (by kernel_rfl)]
  change ((Sem.run Try.prog (do
    let x ← Extern.Bytes.bytesOf (.slice (some ⟨g, 0, none⟩) 16 c)
    let y ← Extern.Bytes.bytesOf (.slice (some ⟨g', 0, none⟩) 16 c')
    pure (goInt (Extern.BytealgCompare.cmp x y))) w).andThen fun v w' => Result.ok (Next.value v) w') = _
  simp only [Sem.run_bind, hA.bytes, hC.bytes, Result.andThen, Sem.run_pure, ext_cmp n m hn hm]
  rfl

theorem bcmp_any (t t' g g' n m c c' : Nat) (hn : n < M128) (hm : m < M128) (w : World) (hA : At w t g n) (hC : At w t' g' m) :
    Calls Try.prog 35 #[.slice (some ⟨g, 0, none⟩) 16 c, .slice (some ⟨g', 0, none⟩) 16 c'] w fun e w' => e = .returned (.int .i64 (cmp n m)) ∧ w' = w := by
  have hx := compare_ext t t' g g' n m c c' hn hm w hA hC
  go_enter Try.func35, Try.ntmps35
  go_wp2_with (simp only [hx])
  go_ret
  exact ⟨rfl, rfl⟩

set_option maxHeartbeats 800000 in
theorem Cmp_any (n m : Nat) (hn : n < M128) (hm : m < M128) (w : World) :
    Calls Try.prog 32 #[.agg (bs n), .agg (bs m)] w fun e w' => e = .returned (.int .i64 (cmp n m)) ∧ Below w.heap.size w w' := by
  have hA := (At.new w 27 n).alloc (.cells (bs m) 27)
  have hC := At.new' (w.alloc (.cells (bs n) 27)) 27 m (g := w.heap.size + 1) (by simp)
  have hB := ((Below.refl w.heap.size w).alloc (Nat.le_refl _) (.cells (bs n) 27)).alloc (by simp) (.cells (bs m) 27)
  go_enter Try.func32, Try.ntmps32
  go_wp2
  go_region_held3 (fun _ => True) (trivial)
    (first | (go_at_call 35; refine (bcmp_any 27 27 w.heap.size (w.heap.size + 1) n m 16 16 hn hm _ ?_ ?_).mono ?_; (exact hA.drew); (exact hC.drew); rintro e w1 ⟨rfl, rfl⟩))
  go_wp2
  go_ret
  exact ⟨rfl, hB.drew⟩

/-- 2^k as sixteen bytes. -/
theorem bs_pow (q r : Nat) (hq : q < 16) (hr : r < 8) : (bs 0).setIfInBounds (15 - q) (.int .u8 ((2 ^ r : Nat) : Int)) = bs (2 ^ (q * 8 + r)) := by
  have hlt : 2 ^ r < 256 := Nat.lt_of_lt_of_le (Nat.pow_lt_pow_right (by decide) hr) (by decide)
  have e : 2 ^ (q * 8 + r) = 256 ^ q * 2 ^ r := by rw [Nat.pow_add, Nat.mul_comm q, Nat.pow_mul]
  have h := bs_set (2 ^ (q * 8 + r)) q hq
  have e0 : 2 ^ (q * 8 + r) % 256 ^ q = 0 := by rw [e]; exact Nat.mul_mod_right _ _
  have e1 : by8 (2 ^ (q * 8 + r)) q = 2 ^ r := by
    unfold by8
    rw [e, Nat.mul_div_cancel_left _ (Nat.pow_pos (by decide)), Nat.mod_eq_of_lt hlt]
  have e2 : 2 ^ (q * 8 + r) % 256 ^ (q + 1) = 2 ^ (q * 8 + r) := by
    refine Nat.mod_eq_of_lt ?_
    rw [e, Nat.pow_succ]
    exact Nat.mul_lt_mul_of_pos_left hlt (Nat.pow_pos (by decide))
  rw [e0, e1, e2] at h
  exact h
theorem pow2_cell (q r : Nat) (hq : q < 16) (hr : r < 8) (x : Int) (hx : x = ((q * 8 + r : Nat) : Int)) :
    (bs 0).setIfInBounds (15 - x / 8).toNat (.int .u8 (2 ^ (x % 8).toNat % 256)) = bs (2 ^ (q * 8 + r)) ∧ (bs 0)[(15 - x / 8).toNat]? = some (.int .u8 0) := by
  have e1 : (15 - x / 8).toNat = 15 - q := by omega
  have e2 : (x % 8).toNat = r := by omega
  have hlt : 2 ^ r < 256 := Nat.lt_of_lt_of_le (Nat.pow_lt_pow_right (by decide) hr) (by decide)
  rw [e1, e2, ← bs_pow q r hq hr]
  constructor
  · congr 2
    have : ((2 : Int) ^ r) = ((2 ^ r : Nat) : Int) := by simp
    rw [this]
    exact Int.emod_eq_of_lt (Int.natCast_nonneg _) (Int.ofNat_lt.2 hlt)
  · rw [bs_get _ _ (by omega)]
    simp [by8]
set_option maxHeartbeats 800000 in
theorem pow2_any (q r : Nat) (hq : q < 16) (hr : r < 8) (x : Int) (hx : x = ((q * 8 + r : Nat) : Int)) (w : World) :
    Calls Try.prog 22 #[.int .i64 x] w fun e w' => e = .returned (.agg (bs (2 ^ (q * 8 + r)))) ∧ Below w.heap.size w w' := by
  have hx0 : 0 ≤ x := by omega
  have hx1 : x ≤ 127 := by omega
  obtain ⟨hE, hG⟩ := pow2_cell q r hq hr x hx
  clear hx hq hr
  generalize 2 ^ (q * 8 + r) = p at *
  have hR := (At.new w 27 0).alloc (.cells (bs p) 27)
  have hA := At.new' (w.alloc (.cells (bs 0) 27)) 27 p (g := w.heap.size + 1) (by simp)
  have hB := ((Below.refl w.heap.size w).alloc (Nat.le_refl _) (.cells (bs 0) 27)).alloc (by simp) (.cells (bs p) 27)
  go_enter Try.func22, Try.ntmps22
  go_wp2_with (first | (refine wpList_al rfl 27 rfl .b ?_) | (refine wpList_ld rfl 27 _ rfl .b (w.heap.size + 1) rfl 27 p hA ?_) | (refine wpList_st rfl 27 _ _ rfl .b w.heap.size p rfl rfl 27 0 hR ?_))
  exact bodyPost_ret (results_id Try.results22 .b _ _ w.heap.size 27 _ rfl (hR.setRow _)) rfl ⟨rfl, below_setRow' hB (by omega) _⟩
end Go.Proofs.Qxb6631297a
