import Derived.Test.Qxb6632226aMatch
import Derived.WalkKit
import Derived.WalkSpells
import Derived.OwnWalk
import Derived.Maps.AppendAt
import Derived.Laws.CopyOwn
import Derived.Laws.BitsLemmas
import Derived.Below
namespace Go.Proofs.Qxb6632226a
open Go.RowKit
set_option linter.unusedSimpArgs false
set_option linter.unusedVariables false
--BEGIN
theorem u16b {c : Int} (h : (Lit.int .u16 c).wf = true) : 0 ≤ c ∧ c ≤ 65535 := by
  have e1 : IntKind.u16.min = 0 := rfl
  have e2 : IntKind.u16.max = 65535 := rfl
  simp [Lit.wf, e1, e2] at h
  omega
set_option maxHeartbeats 400000 in
theorem zz8_small (v m : Value) (a : Option Addr) (len cap : Nat) (h : len ≤ 1048576) (w : World) :
    Calls Try.prog 8 #[v, m, .slice a len cap] w fun e w' => e = .returned (.bool true) ∧ w' = w := by
  go_enter Try.func8, Try.ntmps8
  have h1 : (len : Int) ≤ 1048576 := by omega
  have h2 : (0 : Int) ≤ len := by omega
  go_wp2
  go_ret
  exact ⟨rfl, rfl⟩
set_option maxHeartbeats 400000 in
theorem zz8_big (v m : Value) (a : Option Addr) (len cap : Nat) (h : 1048576 < len) (w : World) :
    Calls Try.prog 8 #[v, m, .slice a len cap] w fun e w' => e = .returned (.bool false) ∧ w' = w := by
  go_enter Try.func8, Try.ntmps8
  have h1 : (1048576 : Int) < (len : Int) := by omega
  go_wp2
  go_ret
  exact ⟨rfl, rfl⟩
theorem law4_big (v m : Value) (a : Option Addr) (len cap : Nat) (h : 1048576 < len) (w : World) :
    Calls Try.prog 4 #[v, m, .slice a len cap] w fun e w' => e = .returned (.bool true) ∧ Below w.heap.size w w' := by
  go_enter Try.func4, Try.ntmps4
  go_wp2_with (go_at_call 8; refine (zz8_big _ _ _ _ _ h _).mono ?_; rintro e wq ⟨rfl, hq⟩; subst wq)
  go_ret
  exact ⟨rfl, Below.refl _ _⟩

def dg (v : Int) (i : Nat) : Int := v / 2 ^ (12 - 4 * i) % 16
def bt (m : Int) (i : Nat) : Int := m / 2 ^ i % 2
def enc (v m : Int) (i : Nat) : Int := if dg v i < 10 then 48 + dg v i else if bt m i = 1 then 55 + dg v i else 87 + dg v i
theorem dg_bd (v : Int) (i : Nat) : 0 ≤ dg v i ∧ dg v i ≤ 15 := by
  unfold dg
  omega
theorem enc_hxv (v m : Int) (i : Nat) : hxv (enc v m i) = dg v i := by
  have := dg_bd v i
  unfold enc hxv
  repeat' split
  all_goals omega
theorem enc_bd (v m : Int) (i : Nat) : 0 ≤ enc v m i ∧ enc v m i ≤ 255 := by
  have := dg_bd v i
  unfold enc
  repeat' split
  all_goals omega
theorem enc_ok (v m : Int) (z : Nat → Int) (hv : 0 ≤ v ∧ v ≤ 65535) (hz : ∀ j, j < 4 → z j = enc v m j) : ok4 z = true ∧ val4 z = v := by
  have h : ∀ j, j < 4 → hxv (z j) = dg v j := fun j hj => by rw [hz j hj, enc_hxv]
  have hk := ok4_true (z := z) (fun j hj => by rw [h j hj]; exact (dg_bd v j).1)
  refine ⟨hk.1, ?_⟩
  rw [hk.2]
  simp only [acc, h 0 (by omega), h 1 (by omega), h 2 (by omega), h 3 (by omega), dg]
  omega

def eL (v m : Int) (k : Nat) : List Value := (List.range k).map fun i => .int .u8 (enc v m i)
theorem eL_length (v m : Int) (k : Nat) : (eL v m k).length = k := by simp [eL]
theorem eL_succ (v m : Int) (k : Nat) : eL v m (k + 1) = eL v m k ++ [.int .u8 (enc v m k)] := by simp [eL, List.range_succ]
theorem and15 (x : Int) (h : 0 ≤ x) (h1 : x < 65536) : bits .and .u16 x 15 = x % 16 := by
  have := bits_mask .u16 16 (by decide) (fun n a b => by rw [IntKind.wrap_u16]; omega) 4 (by decide) x h (by omega)
  simpa using this
theorem and1 (x : Int) (h : 0 ≤ x) (h1 : x < 256) : bits .and .u8 x 1 = x % 2 := by
  have := bits_mask .u8 8 (by decide) wraps_u8 1 (by decide) x h (by omega)
  simpa using this

set_option maxHeartbeats 1000000 in
theorem law4_some (v m : Int) (x : Option Addr) (len cap : Nat) (z : List Int) (hv : 0 ≤ v ∧ v ≤ 65535) (hmm : 0 ≤ m ∧ m ≤ 255) (hlc : len ≤ cap) (hl : z.length = cap) (h : len ≤ 1048576) (w : World) (hc : ∀ a, x = some a → ∀ i, i < z.length → w.cell? (a.add i) = some (.int .u8 (z.getD i 0))) (hx : x = none → len = 0)  (hz : ∀ n ∈ z, (Lit.int .u8 n).wf = true) :
    Calls Try.prog 4 #[.int .u16 v, .int .u8 m, .slice x len cap] w fun e w' => e = .returned (.bool true) ∧ Below w.heap.size w w' := by
  obtain ⟨i0, hi, hz0, hz1, hz2⟩ : ∃ i, Try.prog.info? 5 = some i ∧ i.zero = some (.int .u8 0) ∧ i.size = 1 ∧ i.bytes = 1 := info_parts (by kernel_rfl)
  have Hbig : Hid (len ≤ 1048576) := h
  have Hc : Hid (∀ w1, Below w.heap.size w w1 → ∀ j, j < len → ∃ a, x = some a ∧ w1.cell? (a.add j) = some (.int .u8 (z.getD j 0))) := by
    intro w1 hb j hj
    cases x with
    | none => have := hx rfl; omega
    | some a =>
      refine ⟨a, rfl, ?_⟩
      have hcj := hc a rfl j (by omega)
      rw [hb.cell (show (a.add j).block < _ from ?_), hcj]
      by_cases e : (a.add j).block < w.heap.size
      · exact e
      · simp only [World.cell?] at hcj
        rw [Array.getElem?_eq_none (by omega)] at hcj
        simp at hcj
  have Hz : Hid (∀ j, j < len → 0 ≤ z.getD j 0 ∧ z.getD j 0 ≤ 255) := fun j hj => u8b (hz _ (by
    rw [List.getD_eq_getElem?_getD, List.getElem?_eq_getElem (show j < z.length by omega)]
    simp))
  have Ht : Hid (∀ j, j < len → (z.take (j + 1)).map (Value.int .u8) = (z.take j).map (Value.int .u8) ++ [.int .u8 (z.getD j 0)]) := fun j hj => by
    rw [List.take_add_one, List.getD_eq_getElem?_getD, List.getElem?_eq_getElem (show j < z.length by omega), List.map_append]
    rfl
  clear hc hx hz
  have hlI : (len : Int) ≤ 1048576 := by omega
  go_enter Try.func4, Try.ntmps4
  go_wp2_with (first | (go_at_call 8; refine (zz8_small _ _ _ _ _ Hbig.out _).mono ?_; rintro e wq ⟨rfl, hq⟩; subst wq) | (at_make; refine wpList_make_own _ rfl _ _ 22 rfl w.heap.size 5 i0 (.int .u8 0) 1 Try.underlying22 hi hz0 hz1 .i64 .i64 _ (4 + len) rfl rfl (by omega) (by rw [hz2]; have := Hbig.out; omega) (by unfold maxLen; have := Hbig.out; omega) (Nat.le_refl _) ?_))
  intro w1 hown hgrow
  have hB1 : Below w.heap.size w w1 := Below.grown (Below.refl _ _) hgrow (Nat.le_refl _) (fun k hk => by simp at hk)
  have hg1 : w.heap.size < w1.heap.size := by
    rcases hown.2 with ⟨e, _⟩ | ⟨g, c, cur, e, _, hh, _, _, hs, _⟩
    · simp at e
    · simp at e
      obtain ⟨rfl, rfl⟩ := e
      exact (Array.getElem?_eq_some_iff.1 hh).1
  clear hgrow
  go_wp2
  go_loopw [7, 8] (fun b i wr => ∃ k : Nat, k ≤ 4 ∧ i = .int .i64 (k : Int) ∧ b = .slice (some ⟨w.heap.size, 0, none⟩) k (4 + len) ∧ wr.ownsRow w.heap.size 5 1 (.slice (some ⟨w.heap.size, 0, none⟩) k (4 + len)) k (eL v m k) ∧ Below w.heap.size w wr ∧ w.heap.size < wr.heap.size) (fun _ i _ => (4 - intOf i).toNat)
  case atStart => exact ⟨0, Nat.zero_le _, rfl, rfl, hown, hB1, hg1⟩
  case round =>
    obtain ⟨k, hk, rfl, rfl, ho, hb, hg⟩ := hrel
    have hB : Hid _ := hb
    clear hb hown hB1 hg1
    by_cases hlt : k < 4
    · have h4 : k = 0 ∨ k = 1 ∨ k = 2 ∨ k = 3 := by omega
      rcases h4 with rfl | rfl | rfl | rfl
      · obtain ⟨D, hD⟩ : ∃ D, D = dg v 0 := ⟨_, rfl⟩
        have e1 : bits .and .u16 (v / 4096) 15 = D := by
          rw [and15 _ (by omega) (by omega), hD]
          simp [dg]
        have hb := dg_bd v 0
        rw [← hD] at hb
        by_cases hlo : D < 10
        · have HE : Hid (enc v m 0 = 48 + D) := by
            show _ = _
            rw [enc, ← hD, if_pos hlo]
          clear hD
          go_wp2_with (at_builtin; refine wpList_append_fits _ rfl (.tmp 60) (.tmp 62) 22 rfl w.heap.size 5 i0 1 Try.underlying22 hi hz1 w.heap.size 0 (4 + len) _ rfl (ho.alloc _) ⟨wr.heap.size, 0, none⟩ 1 1 [.int .u8 (48 + D)] rfl rfl (cell_one_new _ _ _) (ints_oneCell .u8 [48 + D]) (by omega) ?_; intro w4 hown4 hgrow4)
          go_roundw
          case rel => exact ⟨0 + 1, by omega, by go_num, rfl, by rw [eL_succ, HE.out]; exact hown4, (hB.out.alloc (by omega) _).grown hgrow4 (by simp; omega) (fun j hj => by cases hj; omega), by have := hgrow4.size; simp at this; omega⟩
          case measure => simp [intOf]
        · by_cases hbit : bt m 0 = 1
          · have HE : Hid (enc v m 0 = 65 + (D - 10)) := by
              show _ = _
              rw [enc, ← hD, if_neg hlo, if_pos hbit]
              omega
            clear hD
            have e2 : bits .and .u8 m 1 = 1 := by
              rw [and1 _ (by omega) (by omega), ← hbit]
              simp [bt]
            go_wp2_with (at_builtin; refine wpList_append_fits _ rfl (.tmp 60) (.tmp 62) 22 rfl w.heap.size 5 i0 1 Try.underlying22 hi hz1 w.heap.size 0 (4 + len) _ rfl (ho.alloc _) ⟨wr.heap.size, 0, none⟩ 1 1 [.int .u8 (65 + (D - 10))] rfl rfl (cell_one_new _ _ _) (ints_oneCell .u8 [65 + (D - 10)]) (by omega) ?_; intro w4 hown4 hgrow4)
            go_roundw
            case rel => exact ⟨0 + 1, by omega, by go_num, rfl, by rw [eL_succ, HE.out]; exact hown4, (hB.out.alloc (by omega) _).grown hgrow4 (by simp; omega) (fun j hj => by cases hj; omega), by have := hgrow4.size; simp at this; omega⟩
            case measure => simp [intOf]
          · have HE : Hid (enc v m 0 = 97 + (D - 10)) := by
              show _ = _
              rw [enc, ← hD, if_neg hlo, if_neg hbit]
              omega
            clear hD
            have e2 : bits .and .u8 m 1 = 0 := by
              rw [and1 _ (by omega) (by omega)]
              simp [bt] at hbit
              omega
            go_wp2_with (at_builtin; refine wpList_append_fits _ rfl (.tmp 60) (.tmp 62) 22 rfl w.heap.size 5 i0 1 Try.underlying22 hi hz1 w.heap.size 0 (4 + len) _ rfl (ho.alloc _) ⟨wr.heap.size, 0, none⟩ 1 1 [.int .u8 (97 + (D - 10))] rfl rfl (cell_one_new _ _ _) (ints_oneCell .u8 [97 + (D - 10)]) (by omega) ?_; intro w4 hown4 hgrow4)
            go_roundw
            case rel => exact ⟨0 + 1, by omega, by go_num, rfl, by rw [eL_succ, HE.out]; exact hown4, (hB.out.alloc (by omega) _).grown hgrow4 (by simp; omega) (fun j hj => by cases hj; omega), by have := hgrow4.size; simp at this; omega⟩
            case measure => simp [intOf]
      · obtain ⟨D, hD⟩ : ∃ D, D = dg v 1 := ⟨_, rfl⟩
        have e1 : bits .and .u16 (v / 256) 15 = D := by
          rw [and15 _ (by omega) (by omega), hD]
          simp [dg]
        have hb := dg_bd v 1
        rw [← hD] at hb
        by_cases hlo : D < 10
        · have HE : Hid (enc v m 1 = 48 + D) := by
            show _ = _
            rw [enc, ← hD, if_pos hlo]
          clear hD
          go_wp2_with (at_builtin; refine wpList_append_fits _ rfl (.tmp 60) (.tmp 62) 22 rfl w.heap.size 5 i0 1 Try.underlying22 hi hz1 w.heap.size 1 (4 + len) _ rfl (ho.alloc _) ⟨wr.heap.size, 0, none⟩ 1 1 [.int .u8 (48 + D)] rfl rfl (cell_one_new _ _ _) (ints_oneCell .u8 [48 + D]) (by omega) ?_; intro w4 hown4 hgrow4)
          go_roundw
          case rel => exact ⟨1 + 1, by omega, by go_num, rfl, by rw [eL_succ, HE.out]; exact hown4, (hB.out.alloc (by omega) _).grown hgrow4 (by simp; omega) (fun j hj => by cases hj; omega), by have := hgrow4.size; simp at this; omega⟩
          case measure => simp [intOf]
        · by_cases hbit : bt m 1 = 1
          · have HE : Hid (enc v m 1 = 65 + (D - 10)) := by
              show _ = _
              rw [enc, ← hD, if_neg hlo, if_pos hbit]
              omega
            clear hD
            have e2 : bits .and .u8 (m / 2) 1 = 1 := by
              rw [and1 _ (by omega) (by omega), ← hbit]
              simp [bt]
            go_wp2_with (at_builtin; refine wpList_append_fits _ rfl (.tmp 60) (.tmp 62) 22 rfl w.heap.size 5 i0 1 Try.underlying22 hi hz1 w.heap.size 1 (4 + len) _ rfl (ho.alloc _) ⟨wr.heap.size, 0, none⟩ 1 1 [.int .u8 (65 + (D - 10))] rfl rfl (cell_one_new _ _ _) (ints_oneCell .u8 [65 + (D - 10)]) (by omega) ?_; intro w4 hown4 hgrow4)
            go_roundw
            case rel => exact ⟨1 + 1, by omega, by go_num, rfl, by rw [eL_succ, HE.out]; exact hown4, (hB.out.alloc (by omega) _).grown hgrow4 (by simp; omega) (fun j hj => by cases hj; omega), by have := hgrow4.size; simp at this; omega⟩
            case measure => simp [intOf]
          · have HE : Hid (enc v m 1 = 97 + (D - 10)) := by
              show _ = _
              rw [enc, ← hD, if_neg hlo, if_neg hbit]
              omega
            clear hD
            have e2 : bits .and .u8 (m / 2) 1 = 0 := by
              rw [and1 _ (by omega) (by omega)]
              simp [bt] at hbit
              omega
            go_wp2_with (at_builtin; refine wpList_append_fits _ rfl (.tmp 60) (.tmp 62) 22 rfl w.heap.size 5 i0 1 Try.underlying22 hi hz1 w.heap.size 1 (4 + len) _ rfl (ho.alloc _) ⟨wr.heap.size, 0, none⟩ 1 1 [.int .u8 (97 + (D - 10))] rfl rfl (cell_one_new _ _ _) (ints_oneCell .u8 [97 + (D - 10)]) (by omega) ?_; intro w4 hown4 hgrow4)
            go_roundw
            case rel => exact ⟨1 + 1, by omega, by go_num, rfl, by rw [eL_succ, HE.out]; exact hown4, (hB.out.alloc (by omega) _).grown hgrow4 (by simp; omega) (fun j hj => by cases hj; omega), by have := hgrow4.size; simp at this; omega⟩
            case measure => simp [intOf]
      · obtain ⟨D, hD⟩ : ∃ D, D = dg v 2 := ⟨_, rfl⟩
        have e1 : bits .and .u16 (v / 16) 15 = D := by
          rw [and15 _ (by omega) (by omega), hD]
          simp [dg]
        have hb := dg_bd v 2
        rw [← hD] at hb
        by_cases hlo : D < 10
        · have HE : Hid (enc v m 2 = 48 + D) := by
            show _ = _
            rw [enc, ← hD, if_pos hlo]
          clear hD
          go_wp2_with (at_builtin; refine wpList_append_fits _ rfl (.tmp 60) (.tmp 62) 22 rfl w.heap.size 5 i0 1 Try.underlying22 hi hz1 w.heap.size 2 (4 + len) _ rfl (ho.alloc _) ⟨wr.heap.size, 0, none⟩ 1 1 [.int .u8 (48 + D)] rfl rfl (cell_one_new _ _ _) (ints_oneCell .u8 [48 + D]) (by omega) ?_; intro w4 hown4 hgrow4)
          go_roundw
          case rel => exact ⟨2 + 1, by omega, by go_num, rfl, by rw [eL_succ, HE.out]; exact hown4, (hB.out.alloc (by omega) _).grown hgrow4 (by simp; omega) (fun j hj => by cases hj; omega), by have := hgrow4.size; simp at this; omega⟩
          case measure => simp [intOf]
        · by_cases hbit : bt m 2 = 1
          · have HE : Hid (enc v m 2 = 65 + (D - 10)) := by
              show _ = _
              rw [enc, ← hD, if_neg hlo, if_pos hbit]
              omega
            clear hD
            have e2 : bits .and .u8 (m / 4) 1 = 1 := by
              rw [and1 _ (by omega) (by omega), ← hbit]
              simp [bt]
            go_wp2_with (at_builtin; refine wpList_append_fits _ rfl (.tmp 60) (.tmp 62) 22 rfl w.heap.size 5 i0 1 Try.underlying22 hi hz1 w.heap.size 2 (4 + len) _ rfl (ho.alloc _) ⟨wr.heap.size, 0, none⟩ 1 1 [.int .u8 (65 + (D - 10))] rfl rfl (cell_one_new _ _ _) (ints_oneCell .u8 [65 + (D - 10)]) (by omega) ?_; intro w4 hown4 hgrow4)
            go_roundw
            case rel => exact ⟨2 + 1, by omega, by go_num, rfl, by rw [eL_succ, HE.out]; exact hown4, (hB.out.alloc (by omega) _).grown hgrow4 (by simp; omega) (fun j hj => by cases hj; omega), by have := hgrow4.size; simp at this; omega⟩
            case measure => simp [intOf]
          · have HE : Hid (enc v m 2 = 97 + (D - 10)) := by
              show _ = _
              rw [enc, ← hD, if_neg hlo, if_neg hbit]
              omega
            clear hD
            have e2 : bits .and .u8 (m / 4) 1 = 0 := by
              rw [and1 _ (by omega) (by omega)]
              simp [bt] at hbit
              omega
            go_wp2_with (at_builtin; refine wpList_append_fits _ rfl (.tmp 60) (.tmp 62) 22 rfl w.heap.size 5 i0 1 Try.underlying22 hi hz1 w.heap.size 2 (4 + len) _ rfl (ho.alloc _) ⟨wr.heap.size, 0, none⟩ 1 1 [.int .u8 (97 + (D - 10))] rfl rfl (cell_one_new _ _ _) (ints_oneCell .u8 [97 + (D - 10)]) (by omega) ?_; intro w4 hown4 hgrow4)
            go_roundw
            case rel => exact ⟨2 + 1, by omega, by go_num, rfl, by rw [eL_succ, HE.out]; exact hown4, (hB.out.alloc (by omega) _).grown hgrow4 (by simp; omega) (fun j hj => by cases hj; omega), by have := hgrow4.size; simp at this; omega⟩
            case measure => simp [intOf]
      · obtain ⟨D, hD⟩ : ∃ D, D = dg v 3 := ⟨_, rfl⟩
        have e1 : bits .and .u16 v 15 = D := by
          rw [and15 _ (by omega) (by omega), hD]
          simp [dg]
        have hb := dg_bd v 3
        rw [← hD] at hb
        by_cases hlo : D < 10
        · have HE : Hid (enc v m 3 = 48 + D) := by
            show _ = _
            rw [enc, ← hD, if_pos hlo]
          clear hD
          go_wp2_with (at_builtin; refine wpList_append_fits _ rfl (.tmp 60) (.tmp 62) 22 rfl w.heap.size 5 i0 1 Try.underlying22 hi hz1 w.heap.size 3 (4 + len) _ rfl (ho.alloc _) ⟨wr.heap.size, 0, none⟩ 1 1 [.int .u8 (48 + D)] rfl rfl (cell_one_new _ _ _) (ints_oneCell .u8 [48 + D]) (by omega) ?_; intro w4 hown4 hgrow4)
          go_roundw
          case rel => exact ⟨3 + 1, by omega, by go_num, rfl, by rw [eL_succ, HE.out]; exact hown4, (hB.out.alloc (by omega) _).grown hgrow4 (by simp; omega) (fun j hj => by cases hj; omega), by have := hgrow4.size; simp at this; omega⟩
          case measure => simp [intOf]
        · by_cases hbit : bt m 3 = 1
          · have HE : Hid (enc v m 3 = 65 + (D - 10)) := by
              show _ = _
              rw [enc, ← hD, if_neg hlo, if_pos hbit]
              omega
            clear hD
            have e2 : bits .and .u8 (m / 8) 1 = 1 := by
              rw [and1 _ (by omega) (by omega), ← hbit]
              simp [bt]
            go_wp2_with (at_builtin; refine wpList_append_fits _ rfl (.tmp 60) (.tmp 62) 22 rfl w.heap.size 5 i0 1 Try.underlying22 hi hz1 w.heap.size 3 (4 + len) _ rfl (ho.alloc _) ⟨wr.heap.size, 0, none⟩ 1 1 [.int .u8 (65 + (D - 10))] rfl rfl (cell_one_new _ _ _) (ints_oneCell .u8 [65 + (D - 10)]) (by omega) ?_; intro w4 hown4 hgrow4)
            go_roundw
            case rel => exact ⟨3 + 1, by omega, by go_num, rfl, by rw [eL_succ, HE.out]; exact hown4, (hB.out.alloc (by omega) _).grown hgrow4 (by simp; omega) (fun j hj => by cases hj; omega), by have := hgrow4.size; simp at this; omega⟩
            case measure => simp [intOf]
          · have HE : Hid (enc v m 3 = 97 + (D - 10)) := by
              show _ = _
              rw [enc, ← hD, if_neg hlo, if_neg hbit]
              omega
            clear hD
            have e2 : bits .and .u8 (m / 8) 1 = 0 := by
              rw [and1 _ (by omega) (by omega)]
              simp [bt] at hbit
              omega
            go_wp2_with (at_builtin; refine wpList_append_fits _ rfl (.tmp 60) (.tmp 62) 22 rfl w.heap.size 5 i0 1 Try.underlying22 hi hz1 w.heap.size 3 (4 + len) _ rfl (ho.alloc _) ⟨wr.heap.size, 0, none⟩ 1 1 [.int .u8 (97 + (D - 10))] rfl rfl (cell_one_new _ _ _) (ints_oneCell .u8 [97 + (D - 10)]) (by omega) ?_; intro w4 hown4 hgrow4)
            go_roundw
            case rel => exact ⟨3 + 1, by omega, by go_num, rfl, by rw [eL_succ, HE.out]; exact hown4, (hB.out.alloc (by omega) _).grown hgrow4 (by simp; omega) (fun j hj => by cases hj; omega), by have := hgrow4.size; simp at this; omega⟩
            case measure => simp [intOf]
    · obtain rfl : k = 4 := by omega
      go_wp2
      go_loopw [7, 12] (fun b i wr => ∃ j : Nat, j ≤ len ∧ i = .int .i64 (j : Int) ∧ b = .slice (some ⟨w.heap.size, 0, none⟩) (4 + j) (4 + len) ∧ wr.ownsRow w.heap.size 5 1 (.slice (some ⟨w.heap.size, 0, none⟩) (4 + j) (4 + len)) (4 + j) (eL v m 4 ++ (z.take j).map (Value.int .u8)) ∧ Below w.heap.size w wr ∧ w.heap.size < wr.heap.size) (fun _ i _ => len - (intOf i).toNat)
      case atStart => exact ⟨0, Nat.zero_le _, rfl, rfl, by simpa using ho, hB.out, hg⟩
      case round =>
        clear ho hB hg
        obtain ⟨j, hj, rfl, rfl, ho, hb, hg⟩ := hrel
        have hB : Hid _ := hb
        clear hb
        by_cases hlt : j < len
        · obtain ⟨a, rfl, hcell⟩ := Hc.out _ hB.out j hlt
          have hzb := Hz.out j hlt
          have HT : Hid _ := Ht.out j hlt
          have hltI : (j : Int) < (len : Int) := by omega
          generalize z.getD j 0 = c at *
          go_wp2_with (at_builtin; refine wpList_append_fits _ rfl (.tmp 70) (.tmp 75) 22 rfl w.heap.size 5 i0 1 Try.underlying22 hi hz1 w.heap.size (4 + j) (4 + len) _ rfl (ho.alloc _) ⟨_, 0, none⟩ 1 1 [.int .u8 c] rfl rfl (cell_one_new _ _ _) (ints_oneCell .u8 [c]) (by omega) ?_; intro w4 hown4 hgrow4)
          go_roundw
          case rel =>
            have R : w4.ownsRow w.heap.size 5 1 (.slice (some ⟨w.heap.size, 0, none⟩) (4 + (j + 1)) (4 + len)) (4 + (j + 1)) (eL v m 4 ++ (z.take (j + 1)).map (Value.int .u8)) := by
              rw [HT.out, ← List.append_assoc]; exact hown4
            (repeat apply Exists.intro)
            exact ⟨⟨j + 1, by omega, by go_num, rfl, R, (hB.out.alloc (by omega) _).grown hgrow4 (by simp; omega) (fun j hj => by cases hj; omega), by have := hgrow4.size; simp at this; omega⟩, rfl⟩
          case measure => simp [intOf]; omega
        · obtain rfl : j = len := by omega
          have Hcells : Hid (∀ i, i < 4 → wr.cell? ⟨w.heap.size, 0 + i, none⟩ = some (.int .u8 (enc v m i))) := by
            intro i hi4
            rcases ho.2 with ⟨e, _⟩ | ⟨g, c, cur, e, _, hh, _, _, hs, ht⟩
            · simp at e
            · simp at e
              obtain ⟨rfl, rfl⟩ := e
              have e2 : cur.toList[i]? = some (.int .u8 (enc v m i)) := by
                have := congrArg (·[i]?) ht
                simp only [List.getElem?_take, Nat.mul_one] at this
                rw [if_pos (by omega), List.getElem?_append_left (by rw [eL_length]; exact hi4)] at this
                rw [this]
                simp [eL, hi4]
              simp [World.cell?, hh]
              simpa using e2
          have HV := enc_ok v m (enc v m) hv (fun _ _ => rfl)
          have Hm : Hid (4 + j ≤ maxLen) := by
            show _ ≤ _
            have := Hbig.out
            unfold maxLen; omega
          have C1 : ∀ n, 4 ≤ n → n ≤ 4 + j → Calls Try.prog 7 #[.slice (some ⟨w.heap.size, 0, none⟩) n (4 + j)] wr fun e w' => e = .returned (.tuple #[.int .i32 v, .bool true]) ∧ w' = wr := by
            intro n h1 h2
            have := zz_long w.heap.size 0 n (4 + j) (enc v m) h1 (Nat.le_trans h2 Hm.out) h2 (fun i _ => enc_bd v m i) wr Hcells.out
            rw [HV.1, HV.2] at this
            exact this
          have C1' : Hid _ := C1
          clear C1 HV ho
          go_wp2_with (first | (go_at_call 7; refine (C1'.out _ (by omega) (by omega)).mono ?_; rintro e wq ⟨rfl, hq⟩; subst wq) | (go_at_call 7; refine (zz_short _ _ _ (by omega) _).mono ?_; rintro e wq ⟨rfl, hq⟩; subst wq))
          go_ret
          exact ⟨rfl, hB.out⟩
--END
end Go.Proofs.Qxb6632226a
