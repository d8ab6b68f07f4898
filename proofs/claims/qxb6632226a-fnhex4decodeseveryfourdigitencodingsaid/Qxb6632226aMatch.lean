import Derived.Test.Qxb6632226aHex
import Derived.WalkKit
import Derived.WalkSpells
import Derived.OwnWalk
import Derived.Maps.AppendAt
import Derived.Laws.CopyOwn
import Derived.Below
namespace Go.Proofs.Qxb6632226a
open Go.RowKit
set_option linter.unusedSimpArgs false
set_option linter.unusedVariables false
--BEGIN
theorem adb (a : Addr) (n : Nat) : (a.add n).block = a.block := by unfold Addr.add; split <;> rfl
theorem u8b {c : Int} (h : (Lit.int .u8 c).wf = true) : 0 ≤ c ∧ c ≤ 255 := by
  have e1 : IntKind.u8.min = 0 := rfl
  have e2 : IntKind.u8.max = 255 := rfl
  simp [Lit.wf, e1, e2] at h
  omega

set_option maxHeartbeats 400000 in
theorem zz3_small (a : Option Addr) (len cap : Nat) (h : len ≤ 1048576) (w : World) :
    Calls Try.prog 5 #[.slice a len cap] w fun e w' => e = .returned (.bool true) ∧ w' = w := by
  go_enter Try.func5, Try.ntmps5
  have h1 : (len : Int) ≤ 1048576 := by omega
  have h2 : (0 : Int) ≤ len := by omega
  go_wp2
  go_ret
  exact ⟨rfl, rfl⟩
set_option maxHeartbeats 400000 in
theorem zz3_big (a : Option Addr) (len cap : Nat) (h : 1048576 < len) (w : World) :
    Calls Try.prog 5 #[.slice a len cap] w fun e w' => e = .returned (.bool false) ∧ w' = w := by
  go_enter Try.func5, Try.ntmps5
  have h1 : (1048576 : Int) < (len : Int) := by omega
  go_wp2
  go_ret
  exact ⟨rfl, rfl⟩

theorem law3_big (a : Option Addr) (len cap : Nat) (h : 1048576 < len) (w : World) :
    Calls Try.prog 3 #[.slice a len cap] w fun e w' => e = .returned (.bool true) ∧ Below w.heap.size w w' := by
  go_enter Try.func3, Try.ntmps3
  go_wp2_with (go_at_call 5; refine (zz3_big _ _ _ h _).mono ?_; rintro e wq ⟨rfl, hq⟩; subst wq)
  go_ret
  exact ⟨rfl, Below.refl _ _⟩
set_option maxHeartbeats 400000 in
theorem law3_nil (w : World) :
    Calls Try.prog 3 #[.slice none 0 0] w fun e w' => e = .returned (.bool true) ∧ Below w.heap.size w w' := by
  go_enter Try.func3, Try.ntmps3
  have hne := fun (w : World) => run_neq_slice_nil_any (P := Try.prog) w 22 5 none 0 0 0 0 Try.underlying22
  simp only [Option.isNone_none, Bool.not_true] at hne
  go_wp2_with (first | (go_at_call 5; refine (zz3_small _ _ _ (by omega) _).mono ?_; rintro e wq ⟨rfl, hq⟩; subst wq) | (go_at_call 6; refine (model_short _ _ _ (by omega) _).mono ?_; rintro e wq ⟨rfl, hq⟩; subst wq) | (go_at_call 7; refine (zz_short _ _ _ (by omega) _).mono ?_; rintro e wq ⟨rfl, hq⟩; subst wq))
  go_ret
  exact ⟨rfl, Below.refl _ _⟩

/-- What the two readers are told of the copy. -/
def Got (w : World) (g len : Nat) (z : Nat → Int) : Prop := ∀ j, j < len → w.cell? ⟨g, 0 + j, none⟩ = some (.int .u8 (z j))

theorem got_of {w : World} {g len : Nat} {cur : List Value} {z : List Int} {t : TypeId} (hl : len ≤ z.length) (h : w.heap[g]? = some (.cells (splice cur 0 ((z.take len).map (Value.int .u8))).toArray t (0, 0))) : Got w g len (fun j => z.getD j 0) := by
  intro j hj
  have : (z.take len).length = len := by simp; omega
  simp [World.cell?, h, splice, List.getElem?_append, this, hj, List.getElem?_take]
  rw [List.getElem?_eq_getElem (by omega)]
  simp
  intro hh
  omega
set_option maxHeartbeats 1000000 in
theorem law3_some (x : Addr) (len cap : Nat) (z : List Int) (hlc : len ≤ cap) (hl : z.length = cap) (h : len ≤ 1048576) (w : World) (hc : ∀ i, i < z.length → w.cell? (x.add i) = some (.int .u8 (z.getD i 0))) (hz : ∀ n ∈ z, (Lit.int .u8 n).wf = true) :
    Calls Try.prog 3 #[.slice (some x) len cap] w fun e w' => e = .returned (.bool true) ∧ Below w.heap.size w w' := by
  have hne := fun (w : World) => run_neq_slice_nil_any (P := Try.prog) w 22 5 (some x) len cap 0 0 Try.underlying22
  simp only [Option.isNone_some, Bool.not_false] at hne
  obtain ⟨i0, hi, hz0, hz1, hz2⟩ : ∃ i, Try.prog.info? 5 = some i ∧ i.zero = some (.int .u8 0) ∧ i.size = 1 ∧ i.bytes = 1 := info_parts (by kernel_rfl)
  have hbl : ∀ i, i < z.length → x.block < w.heap.size := by
    intro i hi
    have := hc i hi
    simp only [World.cell?, adb] at this
    by_cases e : x.block < w.heap.size
    · exact e
    · rw [Array.getElem?_eq_none (by omega)] at this
      simp at this
  have Hs1 : Hid ((Try.prog.info? 5).map (·.size) = some 1) := by
    show _ = _
    rw [hi]; simp [hz1]
  have Hbig : Hid (len ≤ 1048576) := h
  have Hsrc : Hid (∀ w1, Below w.heap.size w w1 → ∀ j v, ((z.take len).map (Value.int .u8))[j]? = some v → w1.cell? (x.add j) = some v) := by
    intro w1 hb j v hj
    have hj' : j < len ∧ j < z.length ∧ v = .int .u8 (z.getD j 0) := by
      rw [List.getElem?_map, List.getElem?_take] at hj
      split at hj
      · by_cases e : j < z.length
        · rw [List.getElem?_eq_getElem e] at hj
          simp at hj
          refine ⟨by assumption, e, ?_⟩
          rw [← hj]
          simp [List.getD_eq_getElem?_getD, List.getElem?_eq_getElem e]
        · rw [List.getElem?_eq_none (by omega)] at hj
          simp at hj
      · simp at hj
    rw [hb.cell (show (x.add j).block < _ from by rw [adb]; exact hbl j hj'.2.1), hc j hj'.2.1, hj'.2.2]
  have Hlen : Hid (((z.take len).map (Value.int .u8)).length = len) := by
    show _ = _
    simp; omega
  have Hone : Hid (∀ v ∈ (z.take len).map (Value.int .u8), v.oneCell' = true) := by
    intro v hv
    obtain ⟨n, _, rfl⟩ := List.mem_map.1 hv
    rfl
  have Hgot : Hid (∀ (w1 : World) (g : Nat) (cur : List Value), w1.heap[g]? = some (.cells (splice cur 0 ((z.take len).map (Value.int .u8))).toArray 5 (0, 0)) → Got w1 g len (fun j => z.getD j 0)) := fun w1 g cur e => got_of (by omega) e
  have Hz : Hid (∀ j, j < len → 0 ≤ (fun j => z.getD j 0) j ∧ (fun j => z.getD j 0) j ≤ 255) := fun j hj => u8b (hz _ (by
    show z.getD j 0 ∈ z
    rw [List.getD_eq_getElem?_getD, List.getElem?_eq_getElem (show j < z.length by omega)]
    simp))
  generalize (z.take len).map (Value.int .u8) = cs at *
  generalize (fun j => z.getD j 0) = zf at *
  clear hc hz hbl
  go_enter Try.func3, Try.ntmps3
  go_wp2_with (first | (go_at_call 5; refine (zz3_small _ _ _ Hbig.out _).mono ?_; rintro e wq ⟨rfl, hq⟩; subst wq) | (at_make; refine wpList_make_full _ rfl _ _ 22 rfl w.heap.size 5 i0 (.int .u8 0) 1 Try.underlying22 hi hz0 hz1 .i64 .i64 _ _ len rfl rfl rfl rfl (by rw [hz2]; have := Hbig.out; omega) (by unfold maxLen; have := Hbig.out; omega) (Nat.le_refl _) ?_))
  intro w1 hown hgrow
  have hB1 : Hid (Below w.heap.size w w1) := Below.grown (Below.refl _ _) hgrow (Nat.le_refl _) (fun k hk => by simp at hk)
  obtain ⟨cur, hcur, hsz⟩ : ∃ cur : List Value, Hid (w1.heap[w.heap.size]? = some (.cells cur.toArray 5 (0, 0))) ∧ Hid (cur.length = len) := by
    rcases hown.2 with ⟨e, _⟩ | ⟨g, c, cur, e, _, hh, _, _, hs, _⟩
    · simp at e
    · simp at e
      obtain ⟨rfl, rfl⟩ := e
      exact ⟨cur.toList, show _ = _ by simpa using hh, show _ = _ by simpa using hs⟩
  clear hown hgrow
  by_cases h4 : len < 4
  · go_wp2_with (first | (refine wpList_copy_splice (by rfl) (.tmp 19) (.tmp 20) 22 22 (by rfl) 5 Try.underlying22 Hs1.out (some ⟨w.heap.size, 0, none⟩) (some x) len len len cap (by rfl) (by rfl) w.heap.size 0 cur 5 hcur.out cs (by rw [Hlen.out]; exact (Nat.min_self _).symm) (fun _ => ⟨rfl, x, rfl, Hsrc.out _ hB1.out⟩) (by rw [Hlen.out, hsz.out]; omega) Hone.out w.heap.size w hB1.out (Nat.le_refl _) ?_; intro w2 hg2 hb2; have hb3 : Hid _ := hb2; clear hb2) | (go_at_call 6; refine (model_short _ _ _ (by omega) _).mono ?_; rintro e wq ⟨rfl, hq⟩; subst wq) | (go_at_call 7; refine (zz_short _ _ _ (by omega) _).mono ?_; rintro e wq ⟨rfl, hq⟩; subst wq))
    go_ret
    exact ⟨rfl, hb3.out⟩
  · skip
    have HG2 : Hid (∀ w2 : World, w2.heap[w.heap.size]? = some (.cells (splice cur 0 cs).toArray 5 (0, 0)) → ∀ j, j < 4 → w2.cell? ⟨w.heap.size, 0 + j, none⟩ = some (.int .u8 (zf j))) := fun w2 e j hj => Hgot.out _ _ _ e j (by omega)
    have Hm : Hid (len ≤ maxLen) := by
      show _ ≤ _
      unfold maxLen; omega
    have Hz4 : Hid (∀ j, j < 4 → 0 ≤ zf j ∧ zf j ≤ 255) := fun j hj => Hz.out j (by omega)
    go_wp2_with (first | (refine wpList_copy_splice (by rfl) (.tmp 19) (.tmp 20) 22 22 (by rfl) 5 Try.underlying22 Hs1.out (some ⟨w.heap.size, 0, none⟩) (some x) len len len cap (by rfl) (by rfl) w.heap.size 0 cur 5 hcur.out cs (by rw [Hlen.out]; exact (Nat.min_self _).symm) (fun _ => ⟨rfl, x, rfl, Hsrc.out _ hB1.out⟩) (by rw [Hlen.out, hsz.out]; omega) Hone.out w.heap.size w hB1.out (Nat.le_refl _) ?_; intro w2 hg2 hb2; have hb3 : Hid _ := hb2; clear hb2; have Hc : Hid _ := HG2.out _ hg2.out) | (go_at_call 6; refine (model_long w.heap.size 0 len len zf (by omega) Hm.out Hz4.out _ Hc.out).mono ?_; rintro e wq ⟨rfl, hq⟩; subst wq) | (go_at_call 7; refine (zz_long w.heap.size 0 len len zf (by omega) Hm.out (Nat.le_refl _) Hz4.out _ Hc.out).mono ?_; rintro e wq ⟨rfl, hq⟩; subst wq))
    go_ret
    exact ⟨rfl, hb3.out⟩
--END
end Go.Proofs.Qxb6632226a
