/-
  chord's within, slices.Index and slices.Contains at identifiers, WALKED. 'Seq w a L': the slice at a holds the identifiers L.
-/
import Derived.Test.Qxb6631297aRing
namespace Go.Proofs.Qxb6631297a
open Go.RowKit
set_option linter.unusedSimpArgs false
/-- x lies in the ring interval (p, s]. -/
def wth (p x s : Nat) : Bool := !(sub x p == 0) && decide (sub x p ≤ sub s p)
theorem cmp_le (a b : Nat) : (cmp a b ≤ 0) ↔ a ≤ b := by
  unfold cmp
  repeat' split
  all_goals omega
theorem yld_neq {ops : Array Oper} {S : World → Prop} {op : Oper} {a : Act} (hw : Region.wanted op (yielded ops a.tmps) = true) (t : TypeId) (x y : Operand) (t2 : TypeId) (ho : op.op = .binOp .neq t x y t2) (ht : IdT t) (hg : Try.prog.eqGuardType Try.prog.depth t = false)
    (n m : Nat) (hx : a.eval x = .agg (bs n)) (hy : a.eval y = .agg (bs m)) (hn : n < M128) (hm : m < M128) (b : Bool) (hb : b = !(n == m)) : YieldsIf Try.prog ops S op (.bool b) a :=
  .inl ⟨hw, fun w hw' => by
    unfold execOp
    simp only [ho, hx, hy, Sem.run_bind, run_eqGuard_agg w .neq t x y (bs n) (bs m) hg, run_neq_ids t n m ht hn hm w, Result.andThen, Sem.run_pure, hb]⟩
theorem yld_eql {ops : Array Oper} {S : World → Prop} {op : Oper} {a : Act} (hw : Region.wanted op (yielded ops a.tmps) = true) (t : TypeId) (x y : Operand) (t2 : TypeId) (ho : op.op = .binOp .eql t x y t2) (ht : IdT t) (hg : Try.prog.eqGuardType Try.prog.depth t = false)
    (n m : Nat) (hx : a.eval x = .agg (bs n)) (hy : a.eval y = .agg (bs m)) (hn : n < M128) (hm : m < M128) (b : Bool) (hb : b = (n == m)) : YieldsIf Try.prog ops S op (.bool b) a :=
  .inl ⟨hw, fun w hw' => by
    unfold execOp
    simp only [ho, hx, hy, Sem.run_bind, run_eqGuard_agg w .eql t x y (bs n) (bs m) hg, run_eql_ids t n m ht hn hm w, Result.andThen, Sem.run_pure, hb]⟩
structure SW (w : World) (g p s d : Nat) (w' : World) : Prop where
  frm : At w' 27 w.heap.size p
  to : At w' 27 (w.heap.size + 1 + 1) s
  d : At w' 27 g d
  below : Below w.heap.size w w'
theorem SW.then {w : World} {g p s d : Nat} {w1 w2 : World} (h : SW w g p s d w1) (hb : Below w1.heap.size w1 w2) : SW w g p s d w2 :=
  ⟨h.frm.kept hb, h.to.kept hb, h.d.kept hb, bthen h.below hb⟩
theorem SW.drew {w : World} {g p s d : Nat} {w1 : World} (h : SW w g p s d w1) : SW w g p s d w1.drew := ⟨h.frm, h.to, h.d, h.below.drew⟩
theorem Try.guard27 : Try.prog.eqGuardType Try.prog.depth 27 = false := by kernel_rfl
theorem Try.guard22 : Try.prog.eqGuardType Try.prog.depth 22 = false := by kernel_rfl
theorem Try.built27 : Try.prog.built 27 [] = some (bs 0) := by kernel_rfl
theorem run_build27 (w : World) : (Instr.build 27 #[]).run Try.prog w = .ok (.agg (bs 0)) w := run_build w 27 #[] (bs 0) Try.built27

set_option maxHeartbeats 800000 in
theorem within_any (p x s : Nat) (hp : p < M128) (hx : x < M128) (hs : s < M128) (w : World) :
    Calls Try.prog 26 #[.agg (bs p), .agg (bs x), .agg (bs s)] w fun e w' => e = .returned (.bool (wth p x s)) ∧ Below w.heap.size w w' := by
  have hF := ((At.new w 27 p).alloc (.cells (bs x) 27)).alloc (.cells (bs s) 27)
  have hX := (At.new' (w.alloc (.cells (bs p) 27)) 27 x (g := w.heap.size + 1) (by simp)).alloc (.cells (bs s) 27)
  have hT := At.new' ((w.alloc (.cells (bs p) 27)).alloc (.cells (bs x) 27)) 27 s (g := w.heap.size + 1 + 1) (by simp)
  have hB := (((Below.refl w.heap.size w).alloc (Nat.le_refl _) (.cells (bs p) 27)).alloc (by simp) (.cells (bs x) 27)).alloc (by simp; omega) (.cells (bs s) 27)
  go_enter Try.func26, Try.ntmps26
  go_wp2_with (first | (refine wpList_ld rfl 27 _ rfl .b (w.heap.size + 1) rfl 27 x hX ?_) | (refine wpList_ld rfl 27 _ rfl .b w.heap.size rfl 27 p hF ?_))
  refine (Sub_any x p hx hp _).mono ?_
  rintro e w1 ⟨rfl, hb1⟩
  have hF1 := hF.kept hb1
  have hT1 := hT.kept hb1
  have hB1 := bthen hB hb1
  clear hF hX hT hB hb1
  have hd := sub_lt x p
  have HW : Hid (wth p x s = (!(sub x p == 0) && decide (sub x p ≤ sub s p))) := rfl
  generalize sub x p = d at *
  have hP0 := At.new w1 27 0
  have hSW : SW w w1.heap.size p s d (w1.alloc (.cells (bs d) 27)) := ⟨hF1.alloc _, hT1.alloc _, At.new w1 27 d, hB1.alloc hB1.size _⟩
  go_wp2_with (first | (refine wpList_al rfl 27 rfl .b ?_) | (refine wpList_st rfl 27 _ _ rfl .b w1.heap.size d rfl rfl 27 0 hP0 ?_; rw [World.setRow_alloc_new]))
  generalize w1.alloc (.cells (bs d) 27) = w2 at *
  generalize w1.heap.size = g at *
  have hbuild := run_build27
  clear hP0 hF1 hT1 hB1
  by_cases h0 : d = 0
  · subst h0
    refine wp_region_held_drew (S := SW w g p s 0) (by kernel_rfl) hSW.drew (fun hHeld => ?_)
    refine wpAnyH_take (i := 0) (v := .agg (bs 0)) (op_at rfl) (by kernel_rfl) (by kernel_rfl) (by kernel_rfl) (fun _ _ _ h => h) (yld (by rfl) 27 _ rfl .b g rfl 0 27 (fun _ h => h.d)) hHeld ?_
    simp only [Act.put, List.setIfInBounds_toArray, List.set_cons_zero, List.set_cons_succ]
    refine wpAnyH_take (i := 1) (v := .agg (bs 0)) (op_at rfl) (by kernel_rfl) (by kernel_rfl) (by kernel_rfl) (fun _ _ _ h => h) (Or.inl ⟨by rfl, fun w hSw => by simp [execOp, hbuild]⟩) hHeld ?_
    simp only [Act.put, List.setIfInBounds_toArray, List.set_cons_zero, List.set_cons_succ]
    refine wpAnyH_take (i := 2) (v := .bool false) (op_at rfl) (by kernel_rfl) (by kernel_rfl) (by kernel_rfl) (fun _ _ _ h => h) (yld_neq (by rfl) 27 _ _ 27 rfl .b Try.guard27 _ 0 rfl rfl hd (by decide) _ (by simp [*])) hHeld ?_
    simp only [Act.put, List.setIfInBounds_toArray, List.set_cons_zero, List.set_cons_succ]
    refine wpAnyH_take (i := 3) (v := .bool false) (op_at rfl) (by kernel_rfl) (by kernel_rfl) (by kernel_rfl) (fun _ _ _ h => h) (Or.inl ⟨by rfl, fun w hSw => rfl⟩) hHeld ?_
    simp only [Act.put, List.setIfInBounds_toArray, List.set_cons_zero, List.set_cons_succ]
    refine wpAnyH_take (i := 4) (v := undef) (op_at rfl) (by kernel_rfl) (by kernel_rfl) (by kernel_rfl) (fun _ _ _ h => h) (Or.inr ⟨by rfl, rfl⟩) hHeld ?_
    simp only [Act.put, List.setIfInBounds_toArray, List.set_cons_zero, List.set_cons_succ]
    refine wpAnyH_take (i := 5) (v := undef) (op_at rfl) (by kernel_rfl) (by kernel_rfl) (by kernel_rfl) (fun _ _ _ h => h) (Or.inr ⟨by rfl, rfl⟩) hHeld ?_
    simp only [Act.put, List.setIfInBounds_toArray, List.set_cons_zero, List.set_cons_succ]
    refine wpAnyH_take (i := 6) (v := undef) (op_at rfl) (by kernel_rfl) (by kernel_rfl) (by kernel_rfl) (fun _ _ _ h => h) (Or.inr ⟨by rfl, rfl⟩) hHeld ?_
    simp only [Act.put, List.setIfInBounds_toArray, List.set_cons_zero, List.set_cons_succ]
    refine wpAnyH_take (i := 7) (v := undef) (op_at rfl) (by kernel_rfl) (by kernel_rfl) (by kernel_rfl) (fun _ _ _ h => h) (Or.inr ⟨by rfl, rfl⟩) hHeld ?_
    simp only [Act.put, List.setIfInBounds_toArray, List.set_cons_zero, List.set_cons_succ]
    refine wpAnyH_take (i := 8) (v := undef) (op_at rfl) (by kernel_rfl) (by kernel_rfl) (by kernel_rfl) (fun _ _ _ h => h) (Or.inr ⟨by rfl, rfl⟩) hHeld ?_
    simp only [Act.put, List.setIfInBounds_toArray, List.set_cons_zero, List.set_cons_succ]
    refine wpAnyH_take (i := 9) (v := undef) (op_at rfl) (by kernel_rfl) (by kernel_rfl) (by kernel_rfl) (fun _ _ _ h => h) (Or.inr ⟨by rfl, rfl⟩) hHeld ?_
    simp only [Act.put, List.setIfInBounds_toArray, List.set_cons_zero, List.set_cons_succ]
    refine wpAnyH_take (i := 10) (v := .bool false) (op_at rfl) (by kernel_rfl) (by kernel_rfl) (by kernel_rfl) (fun _ _ _ h => h) (Or.inl ⟨by rfl, fun w hSw => rfl⟩) hHeld ?_
    simp only [Act.put, List.setIfInBounds_toArray, List.set_cons_zero, List.set_cons_succ]
    refine wpAnyH_take (i := 11) (v := .bool false) (op_at rfl) (by kernel_rfl) (by kernel_rfl) (by kernel_rfl) (fun _ _ _ h => h) (Or.inl ⟨by rfl, fun w hSw => rfl⟩) hHeld ?_
    simp only [Act.put, List.setIfInBounds_toArray, List.set_cons_zero, List.set_cons_succ]
    refine wpAnyH_done (by kernel_rfl) ?_ _
    go_wp2
    go_ret
    exact ⟨by rw [HW.out]; rfl, hHeld.below⟩
  · have hd0 : (d == 0) = false := by simpa using h0
    refine wp_region_held_drew (S := SW w g p s d) (by kernel_rfl) hSW.drew (fun hHeld => ?_)
    refine wpAnyH_take (i := 0) (v := .agg (bs d)) (op_at rfl) (by kernel_rfl) (by kernel_rfl) (by kernel_rfl) (fun _ _ _ h => h) (yld (by rfl) 27 _ rfl .b g rfl d 27 (fun _ h => h.d)) hHeld ?_
    simp only [Act.put, List.setIfInBounds_toArray, List.set_cons_zero, List.set_cons_succ]
    refine wpAnyH_take (i := 1) (v := .agg (bs 0)) (op_at rfl) (by kernel_rfl) (by kernel_rfl) (by kernel_rfl) (fun _ _ _ h => h) (Or.inl ⟨by rfl, fun w hSw => by simp [execOp, hbuild]⟩) hHeld ?_
    simp only [Act.put, List.setIfInBounds_toArray, List.set_cons_zero, List.set_cons_succ]
    refine wpAnyH_take (i := 2) (v := .bool true) (op_at rfl) (by kernel_rfl) (by kernel_rfl) (by kernel_rfl) (fun _ _ _ h => h) (yld_neq (by rfl) 27 _ _ 27 rfl .b Try.guard27 _ 0 rfl rfl hd (by decide) _ (by simp [*])) hHeld ?_
    simp only [Act.put, List.setIfInBounds_toArray, List.set_cons_zero, List.set_cons_succ]
    refine wpAnyH_take (i := 3) (v := .bool true) (op_at rfl) (by kernel_rfl) (by kernel_rfl) (by kernel_rfl) (fun _ _ _ h => h) (Or.inl ⟨by rfl, fun w hSw => rfl⟩) hHeld ?_
    simp only [Act.put, List.setIfInBounds_toArray, List.set_cons_zero, List.set_cons_succ]
    refine wpAnyH_take (i := 4) (v := .agg (bs d)) (op_at rfl) (by kernel_rfl) (by kernel_rfl) (by kernel_rfl) (fun _ _ _ h => h) (yld (by rfl) 27 _ rfl .b g rfl d 27 (fun _ h => h.d)) hHeld ?_
    simp only [Act.put, List.setIfInBounds_toArray, List.set_cons_zero, List.set_cons_succ]
    refine wpAnyH_take (i := 5) (v := .agg (bs s)) (op_at rfl) (by kernel_rfl) (by kernel_rfl) (by kernel_rfl) (fun _ _ _ h => h) (yld (by rfl) 27 _ rfl .b (w.heap.size + 1 + 1) rfl s 27 (fun _ h => h.to)) hHeld ?_
    simp only [Act.put, List.setIfInBounds_toArray, List.set_cons_zero, List.set_cons_succ]
    refine wpAnyH_take (i := 6) (v := .agg (bs p)) (op_at rfl) (by kernel_rfl) (by kernel_rfl) (by kernel_rfl) (fun _ _ _ h => h) (yld (by rfl) 27 _ rfl .b w.heap.size rfl p 27 (fun _ h => h.frm)) hHeld ?_
    simp only [Act.put, List.setIfInBounds_toArray, List.set_cons_zero, List.set_cons_succ]
    refine wpAnyH_ready (rs := [7]) (by kernel_rfl) (by simp) ?_
    refine AllReadyH.cons (op_at rfl) (fun K hK => ?_) AllReadyH.nil
    go_simp
    refine (Sub_any s p hs hp _).mono ?_
    rintro e w5 ⟨rfl, hb5⟩
    refine hK.out _ _ (hHeld.then hb5) (fun hHeld' => ?_)
    clear hK K hHeld
    have hHeld := hHeld'
    clear hHeld'
    try simp only [Act.put, List.setIfInBounds_toArray, List.set_cons_zero, List.set_cons_succ]
    have he := sub_lt s p
    generalize sub s p = e at *
    refine wpAnyH_ready (rs := [8]) (by kernel_rfl) (by simp) ?_
    refine AllReadyH.cons (op_at rfl) (fun K hK => ?_) AllReadyH.nil
    go_simp
    refine (Cmp_any d e hd he _).mono ?_
    rintro e w6 ⟨rfl, hb6⟩
    refine hK.out _ _ (hHeld.then hb6) (fun hHeld' => ?_)
    clear hK K hHeld
    have hHeld := hHeld'
    clear hHeld'
    try simp only [Act.put, List.setIfInBounds_toArray, List.set_cons_zero, List.set_cons_succ]
    refine wpAnyH_take (i := 9) (v := .bool (decide (cmp d e ≤ 0))) (op_at rfl) (by kernel_rfl) (by kernel_rfl) (by kernel_rfl) (fun _ _ _ h => h) (Or.inl ⟨by rfl, fun w hSw => rfl⟩) hHeld ?_
    simp only [Act.put, List.setIfInBounds_toArray, List.set_cons_zero, List.set_cons_succ]
    refine wpAnyH_take (i := 10) (v := .bool (decide (cmp d e ≤ 0))) (op_at rfl) (by kernel_rfl) (by kernel_rfl) (by kernel_rfl) (fun _ _ _ h => h) (Or.inl ⟨by rfl, fun w hSw => rfl⟩) hHeld ?_
    simp only [Act.put, List.setIfInBounds_toArray, List.set_cons_zero, List.set_cons_succ]
    refine wpAnyH_take (i := 11) (v := .bool (decide (cmp d e ≤ 0))) (op_at rfl) (by kernel_rfl) (by kernel_rfl) (by kernel_rfl) (fun _ _ _ h => h) (Or.inl ⟨by rfl, fun w hSw => rfl⟩) hHeld ?_
    simp only [Act.put, List.setIfInBounds_toArray, List.set_cons_zero, List.set_cons_succ]
    refine wpAnyH_done (by kernel_rfl) ?_ _
    go_wp2
    go_ret
    exact ⟨by rw [HW.out, hd0]; simp [cmp_le], hHeld.below⟩
theorem ret_bool {a b : Bool} (h : a = b) : Ending.returned (.bool a) = .returned (.bool b) := by rw [h]
/-- The slice at 'a' holds the identifiers L. -/
def Seq (w : World) (a : Option Addr) (L : List Nat) : Prop := L = [] ∨ ∃ b off, a = some ⟨b, off, none⟩ ∧ ∀ i n, L[i]? = some n → w.rangeAt b (off + i * 16) (bl n)
theorem Seq.addr {w : World} {a : Option Addr} {L : List Nat} (h : Seq w a L) {i n : Nat} (hi : L[i]? = some n) : ∃ b off, a = some ⟨b, off, none⟩ := by
  rcases h with rfl | ⟨b, off, rfl, _⟩
  · simp at hi
  · exact ⟨b, off, rfl⟩
theorem Seq.range {w : World} {b off : Nat} {L : List Nat} (h : Seq w (some ⟨b, off, none⟩) L) {i n : Nat} (hi : L[i]? = some n) : w.rangeAt b (off + i * 16) (bl n) := by
  rcases h with rfl | ⟨b', off', e, hr⟩
  · simp at hi
  · simp at e
    obtain ⟨rfl, rfl⟩ := e
    exact hr i n hi
theorem range_lt {w : World} {b o n : Nat} (h : w.rangeAt b o (bl n)) : b < w.heap.size := by
  have := h 0 _ (bl_get n 0 (by decide))
  exact block_lt_of_cell this
theorem range_below {w w1 : World} {B b o n : Nat} (h : w.rangeAt b o (bl n)) (hb : Below B w w1) (hlt : b < B) : w1.rangeAt b o (bl n) := fun j v hv => by
  rw [hb.cell (p := ⟨b, o + j, none⟩) hlt]; exact h j v hv
theorem range_kept {w w1 : World} {b o n : Nat} (h : w.rangeAt b o (bl n)) (hb : Below w.heap.size w w1) : w1.rangeAt b o (bl n) := range_below h hb (range_lt h)
theorem Seq.kept {w w1 : World} {a : Option Addr} {L : List Nat} (h : Seq w a L) (hb : Below w.heap.size w w1) : Seq w1 a L := by
  rcases h with h | ⟨b, off, e, hr⟩
  · exact .inl h
  · exact .inr ⟨b, off, e, fun i n hi => range_kept (hr i n hi) hb⟩
theorem Seq.drew {w : World} {a : Option Addr} {L : List Nat} (h : Seq w a L) : Seq w.drew a L := h
theorem Seq.alloc {w : World} {a : Option Addr} {L : List Nat} (h : Seq w a L) (o : Obj) : Seq (w.alloc o) a L := h.kept ((Below.refl _ _).alloc (Nat.le_refl _) o)
theorem wpList_lm {ops : Array Oper} {rest : List Oper} {o : Oper} {a : Act} {w : World} {Q : Exit → Act → World → Prop} (hgd : o.guard = none) (t : TypeId) (x : Operand) (ho : o.op = .load t x) (ht : IdT t)
    (b off : Nat) (hx : a.eval x = .pointer (some ⟨b, off, none⟩)) (n : Nat) (hr : w.rangeAt b off (bl n))
    (h : wpList Try.prog ops Q rest (a.put o.dst (.agg (bs n))) w) : wpList Try.prog ops Q (o :: rest) a w :=
  wpList_load_mid hgd t x ho b off hx (bl n) _ hr ht.under rfl (by rw [bl_length, ← bs_size n]; exact ht.size n) h
theorem yldm {ops : Array Oper} {S : World → Prop} {op : Oper} {a : Act} (hw : Region.wanted op (yielded ops a.tmps) = true) (t : TypeId) (x : Operand) (ho : op.op = .load t x) (ht : IdT t)
    (b off : Nat) (hx : a.eval x = .pointer (some ⟨b, off, none⟩)) (n : Nat) (hS : ∀ w, S w → w.rangeAt b off (bl n)) : YieldsIf Try.prog ops S op (.agg (bs n)) a :=
  yieldsIf_load_mid hw t x ho b off hx (bl n) _ hS ht.under rfl (by rw [bl_length, ← bs_size n]; exact ht.size n)
structure SI (w : World) (a : Option Addr) (L : List Nat) (v : Nat) (w' : World) : Prop where
  val : At w' 27 w.heap.size v
  seq : Seq w' a L
  below : Below w.heap.size w w'

theorem SI.drew {w : World} {a : Option Addr} {L : List Nat} {v : Nat} {w' : World} (h : SI w a L v w') : SI w a L v w'.drew := ⟨h.val, h.seq, h.below.drew⟩
set_option maxHeartbeats 800000 in
theorem index_any (a : Option Addr) (cap : Nat) (L : List Nat) (v : Nat) (hv : v < M128) (hL : ∀ n ∈ L, n < M128) (hlen : L.length ≤ 2 ^ 21) (w : World) (hs : Seq w a L) :
    Calls Try.prog 31 #[.slice a L.length cap, .agg (bs v)] w fun e w' => (∃ r : Int, e = .returned (.int .i64 r) ∧ (decide (0 ≤ r) = L.contains v)) ∧ Below w.heap.size w w' := by
  have hSI : SI w a L v (w.alloc (.cells (bs v) 27)) := ⟨At.new w 27 v, hs.alloc _, (Below.refl _ _).alloc (Nat.le_refl _) _⟩
  go_enter Try.func31, Try.ntmps31
  go_wp2
  go_loopw [8] (fun i wr => ∃ k : Nat, k ≤ L.length ∧ i = .int .i64 (k : Int) ∧ (∀ j n, j < k → L[j]? = some n → n ≠ v) ∧ SI w a L v wr) (fun i _ => L.length - (intOf i).toNat)
  case atStart => exact ⟨0, Nat.zero_le _, rfl, fun j n hj => by omega, hSI⟩
  case round =>
    clear hSI
    obtain ⟨k, hk, rfl, hno, hSI⟩ := hrel
    have HN : Hid _ := hno
    clear hno
    by_cases hlt : k < L.length
    · obtain ⟨n, hn⟩ : ∃ n, L[k]? = some n := ⟨_, List.getElem?_eq_getElem hlt⟩
      obtain ⟨b, off, rfl⟩ := hSI.seq.addr hn
      have hnM := hL n (List.mem_of_getElem? hn)
      have HN2 : Hid _ := hn
      have hkI : (k : Int) < (L.length : Int) := by omega
      have hk0 : (0 : Int) ≤ (k : Int) := by omega
      clear hn
      by_cases he : n = v
      · have HE : Hid _ := he
        clear he
        go_wp2
        refine wp_region_held_drew (S := SI w (some ⟨b, off, none⟩) L v) (by kernel_rfl) hSI.drew (fun hHeld => ?_)
        refine wpAnyH_take (i := 0) (v := .agg (bs v)) (op_at rfl) (by kernel_rfl) (by kernel_rfl) (by kernel_rfl) (fun _ _ _ h => h) (yld (by rfl) 27 _ rfl .b w.heap.size rfl v 27 (fun _ h => h.val)) hHeld ?_
        simp only [Act.put, List.setIfInBounds_toArray, List.set_cons_zero, List.set_cons_succ]
        refine wpAnyH_take (i := 1) (v := .slice (some ⟨b, off, none⟩) L.length cap) (op_at rfl) (by kernel_rfl) (by kernel_rfl) (by kernel_rfl) (fun _ _ _ h => h) (Or.inl ⟨by rfl, fun w hSw => rfl⟩) hHeld ?_
        simp only [Act.put, List.setIfInBounds_toArray, List.set_cons_zero, List.set_cons_succ]
        refine wpAnyH_take (i := 2) (v := .int .i64 (k : Int)) (op_at rfl) (by kernel_rfl) (by kernel_rfl) (by kernel_rfl) (fun _ _ _ h => h) (Or.inl ⟨by rfl, fun w hSw => rfl⟩) hHeld ?_
        simp only [Act.put, List.setIfInBounds_toArray, List.set_cons_zero, List.set_cons_succ]
        refine wpAnyH_take (i := 3) (v := .pointer (some ⟨b, off + k * 16, none⟩)) (op_at rfl) (by kernel_rfl) (by kernel_rfl) (by kernel_rfl) (fun _ _ _ h => h) (Or.inl ⟨by rfl, fun w hSw => by go_simp⟩) hHeld ?_
        simp only [Act.put, List.setIfInBounds_toArray, List.set_cons_zero, List.set_cons_succ]
        refine wpAnyH_take (i := 4) (v := .agg (bs n)) (op_at rfl) (by kernel_rfl) (by kernel_rfl) (by kernel_rfl) (fun _ _ _ h => h) (yldm (by rfl) 27 _ rfl .b b (off + k * 16) rfl n (fun _ h => h.seq.range HN2.out)) hHeld ?_
        simp only [Act.put, List.setIfInBounds_toArray, List.set_cons_zero, List.set_cons_succ]
        refine wpAnyH_take (i := 5) (v := .bool true) (op_at rfl) (by kernel_rfl) (by kernel_rfl) (by kernel_rfl) (fun _ _ _ h => h) (yld_eql (by rfl) 27 _ _ 27 rfl .b Try.guard27 v n rfl rfl hv hnM _ (by simp [HE.out])) hHeld ?_
        simp only [Act.put, List.setIfInBounds_toArray, List.set_cons_zero, List.set_cons_succ]
        refine wpAnyH_done (by kernel_rfl) ?_ _
        go_wp2
        go_ret
        exact ⟨⟨_, rfl, by
          have : v ∈ L := by rw [← HE.out]; exact List.mem_of_getElem? HN2.out
          simpa using this⟩, hHeld.below⟩
      · have HE : Hid _ := fun h : v = n => he h.symm
        clear he
        go_wp2
        refine wp_region_held_drew (S := SI w (some ⟨b, off, none⟩) L v) (by kernel_rfl) hSI.drew (fun hHeld => ?_)
        refine wpAnyH_take (i := 0) (v := .agg (bs v)) (op_at rfl) (by kernel_rfl) (by kernel_rfl) (by kernel_rfl) (fun _ _ _ h => h) (yld (by rfl) 27 _ rfl .b w.heap.size rfl v 27 (fun _ h => h.val)) hHeld ?_
        simp only [Act.put, List.setIfInBounds_toArray, List.set_cons_zero, List.set_cons_succ]
        refine wpAnyH_take (i := 1) (v := .slice (some ⟨b, off, none⟩) L.length cap) (op_at rfl) (by kernel_rfl) (by kernel_rfl) (by kernel_rfl) (fun _ _ _ h => h) (Or.inl ⟨by rfl, fun w hSw => rfl⟩) hHeld ?_
        simp only [Act.put, List.setIfInBounds_toArray, List.set_cons_zero, List.set_cons_succ]
        refine wpAnyH_take (i := 2) (v := .int .i64 (k : Int)) (op_at rfl) (by kernel_rfl) (by kernel_rfl) (by kernel_rfl) (fun _ _ _ h => h) (Or.inl ⟨by rfl, fun w hSw => rfl⟩) hHeld ?_
        simp only [Act.put, List.setIfInBounds_toArray, List.set_cons_zero, List.set_cons_succ]
        refine wpAnyH_take (i := 3) (v := .pointer (some ⟨b, off + k * 16, none⟩)) (op_at rfl) (by kernel_rfl) (by kernel_rfl) (by kernel_rfl) (fun _ _ _ h => h) (Or.inl ⟨by rfl, fun w hSw => by go_simp⟩) hHeld ?_
        simp only [Act.put, List.setIfInBounds_toArray, List.set_cons_zero, List.set_cons_succ]
        refine wpAnyH_take (i := 4) (v := .agg (bs n)) (op_at rfl) (by kernel_rfl) (by kernel_rfl) (by kernel_rfl) (fun _ _ _ h => h) (yldm (by rfl) 27 _ rfl .b b (off + k * 16) rfl n (fun _ h => h.seq.range HN2.out)) hHeld ?_
        simp only [Act.put, List.setIfInBounds_toArray, List.set_cons_zero, List.set_cons_succ]
        refine wpAnyH_take (i := 5) (v := .bool false) (op_at rfl) (by kernel_rfl) (by kernel_rfl) (by kernel_rfl) (fun _ _ _ h => h) (yld_eql (by rfl) 27 _ _ 27 rfl .b Try.guard27 v n rfl rfl hv hnM _ (beq_eq_false_iff_ne.2 HE.out).symm) hHeld ?_
        simp only [Act.put, List.setIfInBounds_toArray, List.set_cons_zero, List.set_cons_succ]
        refine wpAnyH_done (by kernel_rfl) ?_ _
        go_wp2
        go_roundw
        case rel => exact ⟨k + 1, by omega, by go_num, fun j m hj hm => by
          by_cases e : j = k
          · subst e
            have := HN2.out.symm.trans hm
            simp at this
            subst this
            exact fun h => HE.out h.symm
          · exact HN.out j m (by omega) hm, hHeld⟩
        case measure => simp [intOf] <;> omega
    · go_wp2
      go_ret
      exact ⟨⟨_, rfl, by
        have : v ∉ L := fun h => by
          obtain ⟨j, hj⟩ := List.getElem?_of_mem h
          have hjl := (List.getElem?_eq_some_iff.1 hj).1
          exact HN.out j v (by omega) hj rfl
        simpa using this⟩, hSI.below⟩

set_option maxHeartbeats 800000 in
theorem contains_any (a : Option Addr) (cap : Nat) (L : List Nat) (v : Nat) (hv : v < M128) (hL : ∀ n ∈ L, n < M128) (hlen : L.length ≤ 2 ^ 21) (w : World) (hs : Seq w a L) :
    Calls Try.prog 25 #[.slice a L.length cap, .agg (bs v)] w fun e w' => e = .returned (.bool (L.contains v)) ∧ Below w.heap.size w w' := by
  have hN := At.new w 27 v
  have hB := (Below.refl w.heap.size w).alloc (Nat.le_refl _) (.cells (bs v) 27)
  have hs1 := hs.alloc (.cells (bs v) 27)
  go_enter Try.func25, Try.ntmps25
  go_wp2_with (first | (refine wpList_ld rfl 27 _ rfl .b w.heap.size rfl 27 v hN ?_))
  refine (index_any a cap L v hv hL hlen _ hs1).mono ?_
  rintro e w1 ⟨⟨r, rfl, hr⟩, hb1⟩
  have HR : Hid _ := hr
  clear hr
  go_wp2
  go_ret
  exact ⟨ret_bool HR.out, bthen hB hb1⟩
end Go.Proofs.Qxb6631297a
