/-
  TOOLS for a region that draws its order, taken by hand (the kit's own tactic takes one long load alone), '==' on identifiers, and chord's FingerRange, WALKED.
-/
import Derived.Test.Qxb6631297aCmp
namespace Go.Proofs.Qxb6631297a
open Go.RowKit
set_option linter.unusedSimpArgs false
theorem Try.info5 : (Try.prog.info? 5).map (·.size) = some 1 := by kernel_rfl
theorem run_part5 (n i : Nat) (hi : i < 16) (w : World) : (part 5 (bs n) i).run Try.prog w = .ok (.int .u8 (by8 n (15 - i) : Int)) w := by
  have hagg : (isAgg 5).run Try.prog w = .ok false w := by
    unfold isAgg
    rw [Sem.run_bind, run_underlying Try.underlying5 w]
    rfl
  simp only [part, Sem.run_bind, hagg, Result.andThen_ok, bs_get n i hi]
  rfl
theorem run_size5 (w : World) : (sizeOf 5).run Try.prog w = .ok 1 w := by
  have := Try.info5
  cases hq : Try.prog.info? 5 with
  | none => simp [hq] at this
  | some i => simp [hq] at this; simp [sizeOf, typeInfo, hq, this]
def eqAll (a b : Nat) : List Nat → Bool
  | [] => true
  | i :: l => ((by8 a (15 - i) : Int) == (by8 b (15 - i) : Int)) && eqAll a b l
theorem run_eq_ids0 (t d a b : Nat) (ht : IdT t) (w : World) : (Op.equalIn (d + 2) t (.agg (bs a)) (.agg (bs b))).run Try.prog w = .ok (eqAll a b (List.range' 0 16)) w := by
  rw [Op.equalIn]
  simp only [Sem.run_bind, run_underlying ht.under, Result.andThen_ok, run_size5]
  rw [Std.Legacy.Range.forIn_eq_forIn_range']
  have hs : (List.range' [:16].start [:16].size [:16].step) = List.range' 0 16 := rfl
  rw [hs]
  have hL : ∀ i ∈ List.range' 0 16, i < 16 := by simp
  clear hs
  generalize List.range' 0 16 = L at *
  induction L with
  | nil => simp [eqAll]
  | cons i L ih =>
    have hi : i < 16 := hL i (by simp)
    have ih' := ih (fun j hj => hL j (by simp [hj]))
    simp only [List.forIn_cons, Sem.run_bind, Sem.run_ite, Nat.mul_one, run_part5 _ _ hi, Result.andThen_ok, run_equalIn_int _ _ 5 .u8 .u8 _ _ Try.underlying5, eqAll]
    cases hc : ((by8 a (15 - i) : Int) == (by8 b (15 - i) : Int))
    · simp only [Bool.not_false, if_true, Sem.run_pure, Result.andThen_ok, Bool.false_and]
    · simp only [Bool.not_true, Bool.false_eq_true, if_false, Sem.run_pure, Result.andThen_ok, Bool.true_and]
      simpa only [Nat.mul_one] using ih'
theorem eqAll_iff (a b : Nat) : ∀ L : List Nat, eqAll a b L = true ↔ ∀ i ∈ L, by8 a (15 - i) = by8 b (15 - i)
  | [] => by simp [eqAll]
  | i :: L => by
    have := eqAll_iff a b L
    simp only [eqAll, Bool.and_eq_true, beq_iff_eq, List.mem_cons, forall_eq_or_imp, this]
    constructor
    · rintro ⟨h1, h2⟩; exact ⟨by omega, h2⟩
    · rintro ⟨h1, h2⟩; exact ⟨by omega, h2⟩
theorem eqAll_ids (a b : Nat) (ha : a < M128) (hb : b < M128) : eqAll a b (List.range' 0 16) = (a == b) := by
  rw [Bool.eq_iff_iff, eqAll_iff, beq_iff_eq]
  constructor
  · intro h
    have := same_prefix a b ha hb 16 (Nat.le_refl _) (fun j hj => h j (by simp; omega))
    simpa using this
  · rintro rfl _ _; rfl
theorem run_eq_ids (t d a b : Nat) (ht : IdT t) (ha : a < M128) (hb : b < M128) (w : World) : (Op.equalIn (d + 2) t (.agg (bs a)) (.agg (bs b))).run Try.prog w = .ok (a == b) w := by
  rw [run_eq_ids0 t d a b ht w, eqAll_ids a b ha hb]
theorem run_eql_ids (t a b : Nat) (ht : IdT t) (ha : a < M128) (hb : b < M128) (w : World) : (binOp .eql t (.agg (bs a)) (.agg (bs b))).run Try.prog w = .ok (.bool (a == b)) w := by
  rw [run_eql_struct, show (10000 : Nat) = 9998 + 2 from rfl, run_eq_ids t 9998 a b ht ha hb]; rfl
theorem run_neq_ids (t a b : Nat) (ht : IdT t) (ha : a < M128) (hb : b < M128) (w : World) : (binOp .neq t (.agg (bs a)) (.agg (bs b))).run Try.prog w = .ok (.bool (!(a == b))) w := by
  rw [run_neq_struct, show (10000 : Nat) = 9998 + 2 from rfl, run_eq_ids t 9998 a b ht ha hb]; rfl
theorem At.run_load {w : World} {t g n ty : Nat} (h : At w t g n) (ht : IdT ty) : (Instr.loadAt ty (.pointer (some ⟨g, 0, none⟩))).run Try.prog w = .ok (.agg (bs n)) w := by
  simp only [Instr.loadAt, Instr.sureAddr, Sem.run_bind, Sem.run_pure, Result.andThen_ok, run_loadVar_row w g t ty (bs n) (0, 0) _ h ht.under rfl (ht.size n)]
theorem At.run_store {w : World} {t g n ty : Nat} (h : At w t g n) (ht : IdT ty) (m : Nat) : (Instr.storeAt ty (.pointer (some ⟨g, 0, none⟩)) (.agg (bs m))).run Try.prog w = .ok () (w.setRow g (bs m)) := by
  simp only [Instr.storeAt, Instr.sureAddr, Sem.run_bind, Sem.run_pure, Result.andThen_ok, run_storeVar_row w g t ty (bs n) (bs m) h (ht.size m) (by rw [bs_size, bs_size]) (bs_one m)]

theorem op_at {l : List Oper} {i : Nat} {o : Oper} (h : l[i]? = some o) : l.toArray[i]? = some o := by simpa using h
theorem yld {ops : Array Oper} {S : World → Prop} {op : Oper} {a : Act} (hw : Region.wanted op (yielded ops a.tmps) = true) (t : TypeId) (x : Operand) (ho : op.op = .load t x) (ht : IdT t)
    (g : Nat) (hx : a.eval x = .pointer (some ⟨g, 0, none⟩)) (n t' : Nat) (hS : ∀ w, S w → At w t' g n) : YieldsIf Try.prog ops S op (.agg (bs n)) a :=
  .inl ⟨hw, fun w hw' => by
    unfold execOp
    simp only [ho, hx, Sem.run_bind, (hS w hw').run_load ht, Result.andThen, Sem.run_pure]⟩
theorem wp_st {o : Oper} {a : Act} {w : World} {K : Act → World → Prop} {Q : Exit → Act → World → Prop} (t : TypeId) (x y : Operand) (ho : o.op = .store t x y) (ht : IdT t)
    (g m : Nat) (hx : a.eval x = .pointer (some ⟨g, 0, none⟩)) (hy : a.eval y = .agg (bs m)) (t' n : Nat) (hA : At w t' g n)
    (h : K (a.put o.dst undef) (w.setRow g (bs m))) : o.wp Try.prog a w K Q :=
  wp_store_row t x y ho g (bs m) hx hy t' (bs n) hA (ht.size m) (by rw [bs_size, bs_size]) (bs_one m) h
theorem results_id2 {fn : Func} {p q : Tmp} {ty ty' : TypeId} (h : fn.results = #[.cell p ty, .cell q ty']) (ht : IdT ty) (ht' : IdT ty') (tmps : Array Value) (w : World) (g t n g' t' n' : Nat)
    (hp : tmps.getD p undef = .pointer (some ⟨g, 0, none⟩)) (hq : tmps.getD q undef = .pointer (some ⟨g', 0, none⟩)) (hA : At w t g n) (hC : At w t' g' n') : (results fn tmps).run Try.prog w = .ok (.tuple #[.agg (bs n), .agg (bs n')]) w := by
  have hp' : tmps[p]?.getD undef = .pointer (some ⟨g, 0, none⟩) := by simpa using hp
  have hq' : tmps[q]?.getD undef = .pointer (some ⟨g', 0, none⟩) := by simpa using hq
  simp [results, h, hp', hq', asAddr, run_loadVar_row w g t ty (bs n) (0, 0) _ hA ht.under rfl (ht.size n), run_loadVar_row w g' t' ty' (bs n') (0, 0) _ hC ht'.under rfl (ht'.size n')]
structure SF (w : World) (g f p : Nat) (w' : World) : Prop where
  first : At w' 27 (w.heap.size + 1) f
  last : ∃ m, At w' 27 (w.heap.size + 1 + 1) m
  size : At w' 27 g p
  below : Below w.heap.size w w'
theorem SF.then {w : World} {g f p : Nat} {w1 w2 : World} (h : SF w g f p w1) (hb : Below w1.heap.size w1 w2) : SF w g f p w2 :=
  ⟨h.first.kept hb, h.last.elim fun m hm => ⟨m, hm.kept hb⟩, h.size.kept hb, bthen h.below hb⟩
theorem SF.drew {w : World} {g f p : Nat} {w1 : World} (h : SF w g f p w1) : SF w g f p w1.drew := ⟨h.first, h.last, h.size, h.below.drew⟩
theorem SF.put1 {w : World} {g f p : Nat} {w1 : World} (h : SF w g f p w1) (hg : w.heap.size + 1 + 1 < g) : SF w g f p (w1.setRow (w.heap.size + 1) (bs f)) :=
  ⟨h.first.setRow f, h.last.elim fun m hm => ⟨m, hm.setRow_other _ _ (by omega)⟩, h.size.setRow_other _ _ (by omega), below_setRow' h.below (by omega) _⟩
theorem SF.put2 {w : World} {g f p : Nat} {w1 : World} (h : SF w g f p w1) (hg : w.heap.size + 1 + 1 < g) (m : Nat) : SF w g f p (w1.setRow (w.heap.size + 1 + 1) (bs m)) :=
  ⟨h.first.setRow_other _ _ (by omega), h.last.elim fun _ hm => ⟨m, hm.setRow m⟩, h.size.setRow_other _ _ (by omega), below_setRow' h.below (by omega) _⟩
theorem pow2_zero (w : World) : Calls Try.prog 22 #[.int .i64 0] w fun e w' => e = .returned (.agg (bs 1)) ∧ Below w.heap.size w w' := pow2_any 0 0 (by omega) (by omega) 0 (by simp) w
theorem pow_lt_M {k : Nat} (h : k < 128) : 2 ^ k < M128 := Nat.pow_lt_pow_right (by decide) h

set_option maxHeartbeats 800000 in
theorem finger_any (s : Nat) (hs : s < M128) (i q r : Nat) (hq : q < 16) (hr : r < 8) (hi : i + (q * 8 + r) = 128) (w : World) :
    Calls Try.prog 16 #[.agg (bs s), .int .i64 i] w fun e w' => (∃ m, e = .returned (.tuple #[.agg (bs (add s (2 ^ (q * 8 + r)))), .agg (bs m)])) ∧ Below w.heap.size w w' := by
  have hp := pow_lt_M (k := q * 8 + r) (by omega)
  have hi2 : i ≤ 128 := by omega
  have HI : Hid _ := hi
  have hS := ((At.new w 27 s).alloc (.cells (bs 0) 27)).alloc (.cells (bs 0) 27)
  have hF := (At.new' (w.alloc (.cells (bs s) 27)) 27 0 (g := w.heap.size + 1) (by simp)).alloc (.cells (bs 0) 27)
  have hL := At.new' ((w.alloc (.cells (bs s) 27)).alloc (.cells (bs 0) 27)) 27 0 (g := w.heap.size + 1 + 1) (by simp)
  have hB := (((Below.refl w.heap.size w).alloc (Nat.le_refl _) (.cells (bs s) 27)).alloc (by simp) (.cells (bs 0) 27)).alloc (by simp; omega) (.cells (bs 0) 27)
  clear hi
  go_enter Try.func16, Try.ntmps16
  go_wp2_with (first | (refine wpList_al rfl 27 rfl .b ?_))
  refine (pow2_any q r hq hr _ (by have := HI.out; omega) _).mono ?_
  rintro e w1 ⟨rfl, hb1⟩
  have hS1 := (hS.kept hb1).alloc (.cells (bs (2 ^ (q * 8 + r))) 27)
  have hF1 := (hF.kept hb1).alloc (.cells (bs (2 ^ (q * 8 + r))) 27)
  have hL1 := (hL.kept hb1).alloc (.cells (bs (2 ^ (q * 8 + r))) 27)
  have hB1 := (bthen hB hb1).alloc (bthen hB hb1).size (.cells (bs (2 ^ (q * 8 + r))) 27)
  have hg : w.heap.size + 1 + 1 < w1.heap.size := by have := hb1.size; simp at this; omega
  clear hS hF hL hB hb1
  generalize hpE : 2 ^ (q * 8 + r) = p at *
  have HP : Hid _ := hpE
  clear hpE
  have hP0 := At.new w1 27 0
  have hP1 := At.new w1 27 p
  go_wp2_with (first | (refine wpList_al rfl 27 rfl .b ?_) | (refine wpList_st rfl 27 _ _ rfl .b w1.heap.size p rfl rfl 27 0 hP0 ?_; rw [World.setRow_alloc_new]) | (refine wpList_ld rfl 27 _ rfl .b w.heap.size rfl 27 s hS1 ?_) | (refine wpList_ld rfl 27 _ rfl .b w1.heap.size rfl 27 p hP1 ?_))
  refine (Add_any s p hs hp _).mono ?_
  rintro e w2 ⟨rfl, hb2⟩
  have hF2 := hF1.kept hb2
  have hL2 := hL1.kept hb2
  have hP2 := hP1.kept hb2
  have hB2 := bthen hB1 hb2
  clear hS1 hF1 hL1 hB1 hb2 hP0 hP1
  generalize w1.heap.size = g at *
  have hf := add_lt s p
  generalize hfE : add s p = f at *
  have HF : Hid _ := hfE
  clear hfE
  have hSF : SF w g f p (w2.setRow (w.heap.size + 1) (bs f)) := ⟨hF2.setRow f, ⟨_, hL2.setRow_other _ _ (by omega)⟩, hP2.setRow_other _ _ (by omega), below_setRow' hB2 (by omega) _⟩
  go_wp2_with (first | (refine wpList_st rfl 27 _ _ rfl .b (w.heap.size + 1) f rfl rfl 27 0 hF2 ?_))
  generalize w2.setRow (w.heap.size + 1) (bs f) = w3 at *
  clear hF2 hL2 hP2 hB2
  refine wp_region_held_drew (S := SF w g f p) (by kernel_rfl) hSF.drew (fun hHeld => ?_)
  refine wpAnyH_take (i := 0) (v := .agg (bs f)) (op_at rfl) (by kernel_rfl) (by kernel_rfl) (by kernel_rfl) (fun _ _ _ h => h) (yld (by rfl) 27 _ rfl .b (w.heap.size + 1) rfl f 27 (fun _ h => h.first)) hHeld ?_
  simp only [Act.put, List.setIfInBounds_toArray, List.set_cons_zero, List.set_cons_succ]
  refine wpAnyH_take (i := 1) (v := .agg (bs f)) (op_at rfl) (by kernel_rfl) (by kernel_rfl) (by kernel_rfl) (fun _ _ _ h => h) (yld (by rfl) 27 _ rfl .b (w.heap.size + 1) rfl f 27 (fun _ h => h.first)) hHeld ?_
  simp only [Act.put, List.setIfInBounds_toArray, List.set_cons_zero, List.set_cons_succ]
  refine wpAnyH_take (i := 2) (v := .agg (bs p)) (op_at rfl) (by kernel_rfl) (by kernel_rfl) (by kernel_rfl) (fun _ _ _ h => h) (yld (by rfl) 27 _ rfl .b g rfl p 27 (fun _ h => h.size)) hHeld ?_
  simp only [Act.put, List.setIfInBounds_toArray, List.set_cons_zero, List.set_cons_succ]
  refine wpAnyH_ready (rs := [3]) (by kernel_rfl) (by simp) ?_
  refine AllReadyH.cons (op_at rfl) (fun K hK => ?_) AllReadyH.nil
  go_simp
  refine (pow2_zero _).mono ?_
  rintro e w4 ⟨rfl, hb4⟩
  refine hK.out _ _ (hHeld.then hb4) (fun hHeld' => ?_)
  clear hK K hHeld
  have hHeld := hHeld'
  clear hHeld'
  try simp only [Act.put, List.setIfInBounds_toArray, List.set_cons_zero, List.set_cons_succ]
  refine wpAnyH_ready (rs := [4]) (by kernel_rfl) (by simp) ?_
  refine AllReadyH.cons (op_at rfl) (fun K hK => ?_) AllReadyH.nil
  go_simp
  refine (Sub_any p 1 hp (by decide) _).mono ?_
  rintro e w5 ⟨rfl, hb5⟩
  refine hK.out _ _ (hHeld.then hb5) (fun hHeld' => ?_)
  clear hK K hHeld
  have hHeld := hHeld'
  clear hHeld'
  try simp only [Act.put, List.setIfInBounds_toArray, List.set_cons_zero, List.set_cons_succ]
  refine wpAnyH_ready (rs := [5]) (by kernel_rfl) (by simp) ?_
  refine AllReadyH.cons (op_at rfl) (fun K hK => ?_) AllReadyH.nil
  go_simp
  refine (Add_any f (sub p 1) hf (sub_lt _ _) _).mono ?_
  rintro e w6 ⟨rfl, hb6⟩
  refine hK.out _ _ (hHeld.then hb6) (fun hHeld' => ?_)
  clear hK K hHeld
  have hHeld := hHeld'
  clear hHeld'
  try simp only [Act.put, List.setIfInBounds_toArray, List.set_cons_zero, List.set_cons_succ]
  refine wpAnyH_ready (rs := [6]) (by kernel_rfl) (by simp) ?_
  refine AllReadyH.cons (op_at rfl) (fun K hK => ?_) AllReadyH.nil
  rw [if_pos (by rfl)]
  refine wp_st 27 _ _ rfl .b (w.heap.size + 1) f rfl rfl 27 _ hHeld.first ?_
  refine hK.out _ _ (hHeld.put1 hg) (fun hHeld' => ?_)
  clear hK K hHeld
  have hHeld := hHeld'
  clear hHeld'
  try simp only [Act.put, List.setIfInBounds_toArray, List.set_cons_zero, List.set_cons_succ]
  obtain ⟨m0, hm0⟩ := hHeld.last
  refine wpAnyH_ready (rs := [7]) (by kernel_rfl) (by simp) ?_
  refine AllReadyH.cons (op_at rfl) (fun K hK => ?_) AllReadyH.nil
  rw [if_pos (by rfl)]
  refine wp_st 27 _ _ rfl .b (w.heap.size + 1 + 1) (add f (sub p 1)) rfl rfl 27 _ hm0 ?_
  refine hK.out _ _ (hHeld.put2 hg _) (fun hHeld' => ?_)
  clear hK K hHeld
  have hHeld := hHeld'
  clear hHeld'
  try simp only [Act.put, List.setIfInBounds_toArray, List.set_cons_zero, List.set_cons_succ]
  refine wpAnyH_done (by kernel_rfl) ?_ _
  go_wp2
  obtain ⟨m1, hm1⟩ := hHeld.last
  exact bodyPost_ret (results_id2 Try.results16 .b .b _ _ (w.heap.size + 1) 27 f (w.heap.size + 1 + 1) 27 m1 rfl rfl hHeld.first hm1) rfl ⟨⟨m1, by rw [HP.out, HF.out]⟩, hHeld.below⟩
end Go.Proofs.Qxb6631297a
