/-
  chord's ZZnewTable and the law's unsettledModel, WALKED.
-/
import Derived.Test.Qxb6631297aSeqs
import Derived.Deep.DeepCutAuto
namespace Go.Proofs.Qxb6631297a
open Go.RowKit
set_option linter.unusedSimpArgs false
def tabCells (s : Nat) (x y : Value) : Array Value := (bl s ++ [x, y, .map none]).toArray
theorem Try.built39 (s : Nat) (pa : Option Addr) (pn pc : Nat) (sa : Option Addr) (sn sc : Nat) :
    Try.prog.built 39 [(0, .agg (bs s)), (1, .slice pa pn pc), (2, .slice sa sn sc)] = some (tabCells s (.slice pa pn pc) (.slice sa sn sc)) := by kernel_rfl
theorem tab_new (w : World) (s : Nat) (pa : Option Addr) (pn pc : Nat) (sa : Option Addr) (sn sc : Nat) :
    Tab (w.alloc (.cells (tabCells s (.slice pa pn pc) (.slice sa sn sc)) 39)) w.heap.size s pa pn pc sa sn sc := by
  have h := heap_alloc_new w (.cells (tabCells s (.slice pa pn pc) (.slice sa sn sc)) 39)
  have hl := bl_length s
  refine ⟨fun j v hv => ?_, ?_, ?_⟩
  · have hj : j < 16 := by have := (List.getElem?_eq_some_iff.1 hv).1; rwa [hl] at this
    rw [cell_of_row _ _ _ _ _ _ h, Nat.zero_add]
    unfold tabCells
    rw [List.getElem?_toArray, List.getElem?_append_left (by omega), hv]
  · rw [cell_of_row _ _ _ _ _ _ h]
    unfold tabCells
    rw [List.getElem?_toArray, List.getElem?_append_right (by omega), hl]
    rfl
  · rw [cell_of_row _ _ _ _ _ _ h]
    unfold tabCells
    rw [List.getElem?_toArray, List.getElem?_append_right (by omega), hl]
    rfl
theorem wpList_b39 {ops : Array Oper} {rest : List Oper} {o : Oper} {a : Act} {w : World} {Q : Exit → Act → World → Prop} (hg : o.guard = none) (x y z : Operand) (ho : o.op = .build 39 #[(0, x), (1, y), (2, z)])
    (s : Nat) (pa : Option Addr) (pn pc : Nat) (sa : Option Addr) (sn sc : Nat) (hx : a.eval x = .agg (bs s)) (hy : a.eval y = .slice pa pn pc) (hz : a.eval z = .slice sa sn sc)
    (h : wpList Try.prog ops Q rest (a.put o.dst (.agg (tabCells s (.slice pa pn pc) (.slice sa sn sc)))) w) : wpList Try.prog ops Q (o :: rest) a w := by
  have e : (#[(0, x), (1, y), (2, z)].map fun (i, x) => (i, a.eval x)).toList = [(0, .agg (bs s)), (1, .slice pa pn pc), (2, .slice sa sn sc)] := by simp [hx, hy, hz]
  refine wpList_build hg 39 _ ho (by rw [e, Try.built39]; rfl) ?_
  rw [e, Try.built39]
  exact h
set_option maxHeartbeats 800000 in
theorem newTable_any (s : Nat) (pa : Option Addr) (pn pc : Nat) (sa : Option Addr) (sn sc : Nat) (w : World) :
    Calls Try.prog 6 #[.agg (bs s), .slice pa pn pc, .slice sa sn sc] w fun e w' => (∃ T, e = .returned (.pointer (some ⟨T, 0, none⟩)) ∧ Tab w' T s pa pn pc sa sn sc) ∧ Below w.heap.size w w' := by
  have hN := At.new w 27 s
  have hB := ((Below.refl w.heap.size w).alloc (Nat.le_refl _) (.cells (bs s) 27)).alloc (by simp) (.cells (tabCells s (.slice pa pn pc) (.slice sa sn sc)) 39)
  have hT := tab_new (w.alloc (.cells (bs s) 27)) s pa pn pc sa sn sc
  go_enter Try.func6, Try.ntmps6
  go_wp2_with (first | (refine wpList_ld (by rfl) 27 _ (by rfl) .b w.heap.size (by rfl) 27 s (by exact hN) ?_) | (refine wpList_b39 (by rfl) _ _ _ (by rfl) s pa pn pc sa sn sc (by rfl) (by rfl) (by rfl) ?_))
  go_ret
  exact ⟨⟨_, rfl, by simpa using hT⟩, hB⟩
theorem wp_al {o : Oper} {a : Act} {w : World} {K : Act → World → Prop} {Q : Exit → Act → World → Prop} (t : TypeId) (ho : o.op = .alloc t) (ht : IdT t)
    (h : K (a.put o.dst (.pointer (some ⟨w.heap.size, 0, none⟩))) (w.alloc (.cells (bs 0) t))) : o.wp Try.prog a w K Q := by
  unfold Oper.wp execOp
  have hz := ht.zero
  simp [ho, Instr.alloc, newVar, newRow, newObj, Sem.run_bind, hz, Value.cells]
  exact h
structure SM (w : World) (s p : Nat) (w' : World) : Prop where
  self : At w' 22 w.heap.size s
  pred : At w' 22 (w.heap.size + 1) p
  below : Below w.heap.size w w'
theorem SM.then {w : World} {s p : Nat} {w1 w2 : World} (h : SM w s p w1) (hb : Below w1.heap.size w1 w2) : SM w s p w2 := ⟨h.self.kept hb, h.pred.kept hb, bthen h.below hb⟩
theorem SM.drew {w : World} {s p : Nat} {w1 : World} (h : SM w s p w1) : SM w s p w1.drew := ⟨h.self, h.pred, h.below.drew⟩
theorem SM.alloc {w : World} {s p : Nat} {w1 : World} (h : SM w s p w1) (o : Obj) : SM w s p (w1.alloc o) := h.then ((Below.refl _ _).alloc (Nat.le_refl _) o)
theorem SM.put {w : World} {s p : Nat} {w1 : World} (h : SM w s p w1) (g m : Nat) (hg : w.heap.size + 1 < g) : SM w s p (w1.setRow g (bs m)) := ⟨h.self.setRow_other _ _ (by omega), h.pred.setRow_other _ _ (by omega), below_setRow' h.below (by omega) _⟩
/-- Is entry i settled, by bit lengths? -/
def stl (d f : Nat) (i : Nat) : Bool := if 0 < cmp f d then decide ((i : Int) ≤ 128 - (blen f : Int)) || decide (129 - (blen d : Int) ≤ (i : Int)) else decide ((i : Int) ≤ 128 - (blen f : Int)) && decide (129 - (blen d : Int) ≤ (i : Int))
def modQ (S : List Nat) (p q s : Nat) : List Nat := if S.contains p then [] else unsL (stl (sub q s) (sub p s)) 16
def modL (s : Nat) (P S : List Nat) : List Nat :=
  if S = [] then [] else modQ S (P.getD (S.length - 1) 0) (S.getD (S.length - 1) 0) s

set_option maxHeartbeats 800000 in
theorem model_none (s : Nat) (pa : Option Addr) (pn pc : Nat) (sa : Option Addr) (sc : Nat) (w : World) :
    Calls Try.prog 11 #[.agg (bs s), .slice pa pn pc, .slice sa 0 sc] w fun e w' => e = .returned (.slice none 0 0) ∧ Below w.heap.size w w' := by
  go_enter Try.func11, Try.ntmps11
  go_wp2
  go_ret
  exact ⟨rfl, (Below.refl _ _).alloc (Nat.le_refl _) _⟩

set_option maxHeartbeats 1600000 in
theorem model_some (s : Nat) (hs : s < M128) (pa : Option Addr) (pn pc : Nat) (sa : Option Addr) (m sc : Nat) (P S : List Nat) (p q : Nat) (hP : ∀ n ∈ P, n < M128) (hS : ∀ n ∈ S, n < M128)
    (hlS : S.length = m + 1) (hmb : m ≤ 2 ^ 20) (hpn : m < pn) (hp : P[m]? = some p) (hq : S[m]? = some q) (w : World) (h1 : Seq w pa P) (h2 : Seq w sa S) :
    Calls Try.prog 11 #[.agg (bs s), .slice pa pn pc, .slice sa (m + 1) sc] w fun e w' =>
      (∃ v, e = .returned v ∧ w'.ownsRow w.heap.size 3 1 v (modQ S p q s).length (iV (modQ S p q s))) ∧ Below w.heap.size w w' := by
  obtain ⟨pb, po, rfl⟩ := h1.addr hp
  obtain ⟨sb, so, rfl⟩ := h2.addr hq
  have hpM := hP p (List.mem_of_getElem? hp)
  have hqM := hS q (List.mem_of_getElem? hq)
  have HP : Hid _ := hp
  have HQ : Hid _ := hq
  have HL : Hid _ := hlS
  have hi1 : (m : Int) < (pn : Int) := by omega
  have hi2 : (m : Int) < (m : Int) + 1 := by omega
  have hw64 : IntKind.i64.wrap (m : Int) = (m : Int) := wrap_i64 (by omega) (by omega)
  have hn1 : (((m : Int) + 1) == 0) = false := beq_eq_false_iff_ne.2 (by omega)
  have hA := At.new w 22 s
  have hB := (Below.refl w.heap.size w).alloc (Nat.le_refl _) (.cells (bs s) 22)
  have hrp := range_kept (h1.range hp) hB
  have hA0 := At.new' (w.alloc (.cells (bs s) 22)) 22 0 (g := w.heap.size + 1) (by simp)
  have hA1 := At.new' (w.alloc (.cells (bs s) 22)) 22 p (g := w.heap.size + 1) (by simp)
  have hsz : (w.alloc (.cells (bs s) 22)).heap.size = w.heap.size + 1 := by simp
  have hSM : SM w s p ((w.alloc (.cells (bs s) 22)).alloc (.cells (bs p) 22)) := ⟨hA.alloc _, hA1, hB.alloc (by simp) _⟩
  have hset : ((w.alloc (.cells (bs s) 22)).alloc (.cells (bs 0) 22)).setRow (w.heap.size + 1) (bs p) = (w.alloc (.cells (bs s) 22)).alloc (.cells (bs p) 22) := by
    have := World.setRow_alloc_new (w.alloc (.cells (bs s) 22)) (bs 0) (bs p) 22
    rwa [hsz] at this
  have HSET : Hid _ := hset
  clear hp hq hlS hset
  go_enter Try.func11, Try.ntmps11
  go_wp2_with (first | (refine wpList_lm (by rfl) 22 _ (by rfl) .a pb (po + m * 16) (by rfl) p (by exact hrp) ?_) | (refine wpList_al' (by rfl) 22 (by rfl) .a (w.heap.size + 1) (by simp) ?_) | (refine wpList_st (by rfl) 22 _ _ (by rfl) .a (w.heap.size + 1) p (by rfl) (by rfl) 22 0 (by exact hA0) ?_; rw [HSET.out]) | (refine wpList_ld (by rfl) 22 _ (by rfl) .a (w.heap.size + 1) (by rfl) 22 p (by exact hSM.pred) ?_))
  have hcont : ∀ W, Seq W (some ⟨sb, so, none⟩) S → Calls Try.prog 18 #[.slice (some ⟨sb, so, none⟩) (m + 1) sc, .agg (bs p)] W fun e w' => e = .returned (.bool (S.contains p)) ∧ Below W.heap.size W w' := fun W hW => by
    have := containsID_any (some ⟨sb, so, none⟩) sc S p hpM hS (by have := HL.out; omega) W hW
    rwa [HL.out] at this
  refine (hcont _ (h2.kept hSM.below)).mono ?_
  rintro e w1 ⟨rfl, hb1⟩
  have hSM1 := hSM.then hb1
  clear hcont hA hB hrp hA0 hA1 hsz hSM hb1 HSET
  cases hc : S.contains p
  case true =>
    have HQ0 : Hid (modQ S p q s = []) := show modQ S p q s = [] by unfold modQ; rw [hc]; rfl
    clear hc
    go_wp2
    go_ret
    exact ⟨⟨_, rfl, by rw [HQ0.out]; exact World.ownsRow_nil _ _ _ _⟩, hSM1.below⟩
  case false =>
    have HC : Hid (modQ S p q s = unsL (stl (sub q s) (sub p s)) 16) := show modQ S p q s = unsL (stl (sub q s) (sub p s)) 16 by unfold modQ; rw [hc]; rfl
    clear hc
    go_wp2_with fail
    go_cut [9] (fun s9 wx => ∃ g, s9 = .pointer (some ⟨g, 0, none⟩) ∧ w.heap.size + 1 < g ∧ At wx 22 g (sub q s) ∧ SM w s p wx)
    case first =>
      refine wp_region_held_drew (S := SM w s p) (by kernel_rfl) hSM1.drew (fun hHeld => ?_)
      refine wpAnyH_take (i := 0) (v := .slice (some ⟨sb, so, none⟩) (m + 1) sc) (op_at rfl) (by kernel_rfl) (by kernel_rfl) (by kernel_rfl) (fun _ _ _ h => h) (Or.inl ⟨by rfl, fun w hSw => rfl⟩) hHeld ?_
      simp only [Act.put, List.setIfInBounds_toArray, List.set_cons_zero, List.set_cons_succ]
      refine wpAnyH_take (i := 1) (v := .int .i64 ((m : Int) + 1)) (op_at rfl) (by kernel_rfl) (by kernel_rfl) (by kernel_rfl) (fun _ _ _ h => h) (Or.inl ⟨by rfl, fun w hSw => rfl⟩) hHeld ?_
      simp only [Act.put, List.setIfInBounds_toArray, List.set_cons_zero, List.set_cons_succ]
      refine wpAnyH_take (i := 2) (v := .int .i64 (m : Int)) (op_at rfl) (by kernel_rfl) (by kernel_rfl) (by kernel_rfl) (fun _ _ _ h => h) (Or.inl ⟨by rfl, fun w hSw => by go_simp⟩) hHeld ?_
      simp only [Act.put, List.setIfInBounds_toArray, List.set_cons_zero, List.set_cons_succ]
      refine wpAnyH_take (i := 3) (v := .pointer (some ⟨sb, so + m * 16, none⟩)) (op_at rfl) (by kernel_rfl) (by kernel_rfl) (by kernel_rfl) (fun _ _ _ h => h) (Or.inl ⟨by rfl, fun w hSw => by go_simp⟩) hHeld ?_
      simp only [Act.put, List.setIfInBounds_toArray, List.set_cons_zero, List.set_cons_succ]
      refine wpAnyH_take (i := 4) (v := .agg (bs q)) (op_at rfl) (by kernel_rfl) (by kernel_rfl) (by kernel_rfl) (fun _ _ _ h => h) (yldm (by rfl) 22 _ rfl .a sb (so + m * 16) rfl q (fun _ h => (h2.kept h.below).range HQ.out)) hHeld ?_
      simp only [Act.put, List.setIfInBounds_toArray, List.set_cons_zero, List.set_cons_succ]
      refine wpAnyH_take (i := 5) (v := .agg (bs s)) (op_at rfl) (by kernel_rfl) (by kernel_rfl) (by kernel_rfl) (fun _ _ _ h => h) (yld (by rfl) 22 _ rfl .a w.heap.size rfl s 22 (fun _ h => h.self)) hHeld ?_
      simp only [Act.put, List.setIfInBounds_toArray, List.set_cons_zero, List.set_cons_succ]
      refine wpAnyH_ready (rs := [6, 7]) (by kernel_rfl) (by simp) ?_
      refine AllReadyH.cons (op_at rfl) (fun K hK => ?_) (AllReadyH.cons (op_at rfl) (fun K hK => ?_) AllReadyH.nil)
      · go_simp
        refine (sub_any q s hs _).mono ?_
        rintro e w5 ⟨rfl, hb5⟩
        refine hK.out _ _ (hHeld.then hb5) (fun hHeld' => ?_)
        clear hK K hHeld
        have hHeld := hHeld'
        clear hHeld'
        try simp only [Act.put, List.setIfInBounds_toArray, List.set_cons_zero, List.set_cons_succ]
        refine wpAnyH_ready (rs := [7]) (by kernel_rfl) (by simp) ?_
        refine AllReadyH.cons (op_at rfl) (fun K hK => ?_) AllReadyH.nil
        rw [if_pos (by rfl)]
        have hg : w.heap.size + 1 < w5.heap.size := hHeld.pred.lt
        have hN := At.new w5 22 0
        have hN2 := hN.setRow (sub q s)
        refine wp_al 22 rfl .a ?_
        refine hK.out _ _ (hHeld.alloc _) (fun hHeld' => ?_)
        clear hK K hHeld
        have hHeld := hHeld'
        clear hHeld'
        try simp only [Act.put, List.setIfInBounds_toArray, List.set_cons_zero, List.set_cons_succ]
        refine wpAnyH_ready (rs := [8]) (by kernel_rfl) (by simp) ?_
        refine AllReadyH.cons (op_at rfl) (fun K hK => ?_) AllReadyH.nil
        rw [if_pos (by rfl)]
        refine wp_st 22 _ _ rfl .a w5.heap.size (sub q s) rfl rfl 22 _ hN ?_
        refine hK.out _ _ (hHeld.put _ _ hg) (fun hHeld' => ?_)
        clear hK K hHeld
        have hHeld := hHeld'
        clear hHeld'
        try simp only [Act.put, List.setIfInBounds_toArray, List.set_cons_zero, List.set_cons_succ]
        refine wpAnyH_done (by kernel_rfl) ?_ _
        go_wp2_with fail
        go_meet
        case rel => exact ⟨_, rfl, hg, hN2, hHeld⟩
      · rw [if_pos (by rfl)]
        have hg : w.heap.size + 1 < w1.drew.heap.size := hHeld.pred.lt
        have hN := At.new w1.drew 22 0
        refine wp_al 22 rfl .a ?_
        refine hK.out _ _ (hHeld.alloc _) (fun hHeld' => ?_)
        clear hK K hHeld
        have hHeld := hHeld'
        clear hHeld'
        try simp only [Act.put, List.setIfInBounds_toArray, List.set_cons_zero, List.set_cons_succ]
        refine wpAnyH_ready (rs := [6]) (by kernel_rfl) (by simp) ?_
        refine AllReadyH.cons (op_at rfl) (fun K hK => ?_) AllReadyH.nil
        go_simp
        refine (sub_any q s hs _).mono ?_
        rintro e w5 ⟨rfl, hb5⟩
        refine hK.out _ _ (hHeld.then hb5) (fun hHeld' => ?_)
        clear hK K hHeld
        have hHeld := hHeld'
        clear hHeld'
        try simp only [Act.put, List.setIfInBounds_toArray, List.set_cons_zero, List.set_cons_succ]
        have hN1 := hN.kept hb5
        have hN2 := hN1.setRow (sub q s)
        refine wpAnyH_ready (rs := [8]) (by kernel_rfl) (by simp) ?_
        refine AllReadyH.cons (op_at rfl) (fun K hK => ?_) AllReadyH.nil
        rw [if_pos (by rfl)]
        refine wp_st 22 _ _ rfl .a w1.drew.heap.size (sub q s) rfl rfl 22 _ hN1 ?_
        refine hK.out _ _ (hHeld.put _ _ hg) (fun hHeld' => ?_)
        clear hK K hHeld
        have hHeld := hHeld'
        clear hHeld'
        try simp only [Act.put, List.setIfInBounds_toArray, List.set_cons_zero, List.set_cons_succ]
        refine wpAnyH_done (by kernel_rfl) ?_ _
        go_wp2_with fail
        go_meet
        case rel => exact ⟨_, rfl, hg, hN2, hHeld⟩
    case rest =>
      obtain ⟨g, rfl, hg, hD, hSM2⟩ := hcut
      clear hSM1
      go_wp2_with (first | (refine wpList_ld (by rfl) 22 _ (by rfl) .a (w.heap.size + 1) (by rfl) 22 p (by exact hSM2.pred) ?_) | (refine wpList_ld (by rfl) 22 _ (by rfl) .a w.heap.size (by rfl) 22 s (by exact hSM2.self) ?_))
      refine (sub_any p s hs _).mono ?_
      rintro e w2 ⟨rfl, hb2⟩
      have hd := sub_lt q s
      have hf := sub_lt p s
      generalize sub q s = d at *
      generalize sub p s = f at *
      have hD2 := (hD.kept hb2).alloc (.cells (bs f) 22)
      have hB2 := (bthen hSM2.below hb2).alloc (bthen hSM2.below hb2).size (.cells (bs f) 22)
      have hF0 := At.new w2 22 0
      have hF := At.new w2 22 f
      clear hD hSM2 hb2
      go_wp2_with (first | (refine wpList_al' (by rfl) 22 (by rfl) .a w2.heap.size (by rfl) ?_) | (refine wpList_st (by rfl) 22 _ _ (by rfl) .a w2.heap.size f (by rfl) (by rfl) 22 0 (by exact hF0) ?_; rw [World.setRow_alloc_new]) | (refine wpList_ld (by rfl) 22 _ (by rfl) .a g (by rfl) 22 d (by exact hD2) ?_))
      refine (blen_any d hd _).mono ?_
      rintro e w3 ⟨rfl, hb3⟩
      have hD3 := hD2.kept hb3
      have hF3 := hF.kept hb3
      have hB3 := bthen hB2 hb3
      clear hD2 hF hF0 hB2 hb3
      have hld := blen_M d hd
      have hlf := blen_M f hf
      go_wp2_with (first | (refine wpList_ld (by rfl) 22 _ (by rfl) .a w2.heap.size (by rfl) 22 f (by exact hF3) ?_))
      refine (blen_any f hf _).mono ?_
      rintro e w4 ⟨rfl, hb4⟩
      have hD4 := hD3.kept hb4
      have hF4 := hF3.kept hb4
      have hB4 := bthen hB3 hb4
      clear hD3 hF3 hB3 hb4
      go_wp2_with (first | (refine wpList_ld (by rfl) 22 _ (by rfl) .a w2.heap.size (by rfl) 22 f (by exact hF4) ?_) | (refine wpList_ld (by rfl) 22 _ (by rfl) .a g (by rfl) 22 d (by exact hD4) ?_))
      refine (cmp_any f d hf hd _).mono ?_
      rintro e w5 ⟨rfl, hb5⟩
      have hB5 := bthen hB4 hb5
      clear hD4 hF4 hB4 hb5
      have HT : Hid (∀ i, stl d f i = if 0 < cmp f d then decide ((i : Int) ≤ 128 - (blen f : Int)) || decide (129 - (blen d : Int) ≤ (i : Int)) else decide ((i : Int) ≤ 128 - (blen f : Int)) && decide (129 - (blen d : Int) ≤ (i : Int))) := fun i => rfl
      generalize stl d f = c at *
      generalize cmp f d = z at *
      generalize blen d = x at *
      generalize blen f = y at *
      obtain ⟨i0, hi, hz0, hz1, hz2⟩ := info_parts Try.info3
      by_cases hz : 0 < z
      · have hzb : decide (0 < z) = true := by simpa using hz
        have HT2 : Hid (∀ i : Nat, c i = (decide ((i : Int) ≤ 128 - (y : Int)) || decide (129 - (x : Int) ≤ (i : Int)))) := fun i => by rw [HT.out i, if_pos hz]
        clear HT
        go_wp2
        go_loopw [14, 15] (fun v i wr => ∃ k : Nat, k ≤ 16 ∧ i = .int .i64 ((k : Int) + 1) ∧ wr.ownsRow w.heap.size 3 1 v (unsL c k).length (iV (unsL c k)) ∧ Below w.heap.size w wr) (fun _ i _ => (17 - intOf i).toNat)
        case atStart => exact ⟨0, Nat.zero_le _, rfl, (World.ownsRow_nil _ _ _ _ : w5.ownsRow w.heap.size 3 1 (.slice none 0 0) 0 []), hB5⟩
        case round =>
          clear hB5
          obtain ⟨k, hk, rfl, hown, hb⟩ := hrel
          have hul := unsL_le c k
          by_cases hlt : k < 16
          · have hT := HT2.out (k + 1)
            have hpush : (((k + 1 : Nat) : Int)) = (k : Int) + 1 := by omega
            rw [hpush] at hT
            clear hpush HT2
            cases hck : c (k + 1)
            · have HE : Hid (unsL c (k + 1) = unsL c k ++ [k + 1]) := by rw [unsL, hck]; rfl
              have T : Hid (128 - (y : Int) < (k : Int) + 1 ∧ (k : Int) + 1 < 129 - (x : Int)) := by rw [hck] at hT; show _ ∧ _; simp at hT; omega
              clear hT hck
              obtain ⟨t1, t2⟩ := T.out
              have ha : decide ((k : Int) + 1 ≤ 128 - (y : Int)) = false := by simpa using t1
              have hb2 : decide (129 - (x : Int) ≤ (k : Int) + 1) = false := by simpa using t2
              go_wp2_with (first | (at_builtin; refine wpList_append_own _ rfl _ _ 30 rfl w.heap.size 3 i0 (.int .i64 0) 1 8 Try.underlying30 hi hz0 hz1 hz2 rfl (by decide) _ _ _ rfl (hown.alloc _) ⟨wr.heap.size, 0, none⟩ 1 1 [.int .i64 ((k : Int) + 1)] rfl rfl (by intro j u hj; match j, hj with | 0, hj => simp at hj; subst hj; simp [Addr.add]) (by intro u hu; simp at hu; subst hu; rfl) (by unfold maxLen; omega) (by omega) (by have := hb.size; simp; omega) ?_))
              intro v' w3 hown3 hgrow _
              have hB6 := (hb.alloc hb.size (.cells #[.int .i64 ((k : Int) + 1)] 3)).grown hgrow (by have := hb.size; simp; omega) (own_ge hown)
              go_wp2
              go_roundw
              case rel => exact ⟨k + 1, by omega, by go_num, by rw [HE.out]; simpa [iV] using hown3, hB6⟩
              case measure => simp [intOf] <;> omega
            · have HE : Hid (unsL c (k + 1) = unsL c k) := show unsL c (k + 1) = unsL c k by rw [unsL, hck, if_pos rfl, List.append_nil]
              have T : Hid ((k : Int) + 1 ≤ 128 - (y : Int) ∨ (128 - (y : Int) < (k : Int) + 1 ∧ 129 - (x : Int) ≤ (k : Int) + 1)) := by rw [hck] at hT; show _ ∨ _; simp at hT; omega
              clear hT hck
              rcases T.out with t1 | ⟨t1, t2⟩
              · skip
                have ha : decide ((k : Int) + 1 ≤ 128 - (y : Int)) = true := by simpa using t1
                go_wp2
                go_roundw
                case rel => exact ⟨k + 1, by omega, by go_num, by rw [HE.out]; exact hown, hb⟩
                case measure => simp [intOf] <;> omega
              · skip
                have ha : decide ((k : Int) + 1 ≤ 128 - (y : Int)) = false := by simpa using t1
                have hb2 : decide (129 - (x : Int) ≤ (k : Int) + 1) = true := by simpa using t2
                go_wp2
                go_roundw
                case rel => exact ⟨k + 1, by omega, by go_num, by rw [HE.out]; exact hown, hb⟩
                case measure => simp [intOf] <;> omega
          · obtain rfl : k = 16 := by omega
            go_wp2
            go_ret
            exact ⟨⟨_, rfl, by rw [HC.out]; exact hown⟩, hb⟩
      · have hzb : decide (0 < z) = false := by simpa using hz
        have HT2 : Hid (∀ i : Nat, c i = (decide ((i : Int) ≤ 128 - (y : Int)) && decide (129 - (x : Int) ≤ (i : Int)))) := fun i => by rw [HT.out i, if_neg hz]
        clear HT
        go_wp2
        go_loopw [14, 15] (fun v i wr => ∃ k : Nat, k ≤ 16 ∧ i = .int .i64 ((k : Int) + 1) ∧ wr.ownsRow w.heap.size 3 1 v (unsL c k).length (iV (unsL c k)) ∧ Below w.heap.size w wr) (fun _ i _ => (17 - intOf i).toNat)
        case atStart => exact ⟨0, Nat.zero_le _, rfl, (World.ownsRow_nil _ _ _ _ : w5.ownsRow w.heap.size 3 1 (.slice none 0 0) 0 []), hB5⟩
        case round =>
          clear hB5
          obtain ⟨k, hk, rfl, hown, hb⟩ := hrel
          have hul := unsL_le c k
          by_cases hlt : k < 16
          · have hT := HT2.out (k + 1)
            have hpush : (((k + 1 : Nat) : Int)) = (k : Int) + 1 := by omega
            rw [hpush] at hT
            clear hpush HT2
            cases hck : c (k + 1)
            · have HE : Hid (unsL c (k + 1) = unsL c k ++ [k + 1]) := by rw [unsL, hck]; rfl
              have T : Hid (128 - (y : Int) < (k : Int) + 1 ∨ ((k : Int) + 1 ≤ 128 - (y : Int) ∧ (k : Int) + 1 < 129 - (x : Int))) := by rw [hck] at hT; show _ ∨ _; simp at hT; omega
              clear hT hck
              rcases T.out with t1 | ⟨t1, t2⟩
              · skip
                have ha : decide ((k : Int) + 1 ≤ 128 - (y : Int)) = false := by simpa using t1
                go_wp2_with (first | (at_builtin; refine wpList_append_own _ rfl _ _ 30 rfl w.heap.size 3 i0 (.int .i64 0) 1 8 Try.underlying30 hi hz0 hz1 hz2 rfl (by decide) _ _ _ rfl (hown.alloc _) ⟨wr.heap.size, 0, none⟩ 1 1 [.int .i64 ((k : Int) + 1)] rfl rfl (by intro j u hj; match j, hj with | 0, hj => simp at hj; subst hj; simp [Addr.add]) (by intro u hu; simp at hu; subst hu; rfl) (by unfold maxLen; omega) (by omega) (by have := hb.size; simp; omega) ?_))
                intro v' w3 hown3 hgrow _
                have hB6 := (hb.alloc hb.size (.cells #[.int .i64 ((k : Int) + 1)] 3)).grown hgrow (by have := hb.size; simp; omega) (own_ge hown)
                go_wp2
                go_roundw
                case rel => exact ⟨k + 1, by omega, by go_num, by rw [HE.out]; simpa [iV] using hown3, hB6⟩
                case measure => simp [intOf] <;> omega
              · skip
                have ha : decide ((k : Int) + 1 ≤ 128 - (y : Int)) = true := by simpa using t1
                have hb2 : decide (129 - (x : Int) ≤ (k : Int) + 1) = false := by simpa using t2
                go_wp2_with (first | (at_builtin; refine wpList_append_own _ rfl _ _ 30 rfl w.heap.size 3 i0 (.int .i64 0) 1 8 Try.underlying30 hi hz0 hz1 hz2 rfl (by decide) _ _ _ rfl (hown.alloc _) ⟨wr.heap.size, 0, none⟩ 1 1 [.int .i64 ((k : Int) + 1)] rfl rfl (by intro j u hj; match j, hj with | 0, hj => simp at hj; subst hj; simp [Addr.add]) (by intro u hu; simp at hu; subst hu; rfl) (by unfold maxLen; omega) (by omega) (by have := hb.size; simp; omega) ?_))
                intro v' w3 hown3 hgrow _
                have hB6 := (hb.alloc hb.size (.cells #[.int .i64 ((k : Int) + 1)] 3)).grown hgrow (by have := hb.size; simp; omega) (own_ge hown)
                go_wp2
                go_roundw
                case rel => exact ⟨k + 1, by omega, by go_num, by rw [HE.out]; simpa [iV] using hown3, hB6⟩
                case measure => simp [intOf] <;> omega
            · have HE : Hid (unsL c (k + 1) = unsL c k) := show unsL c (k + 1) = unsL c k by rw [unsL, hck, if_pos rfl, List.append_nil]
              have T : Hid ((k : Int) + 1 ≤ 128 - (y : Int) ∧ 129 - (x : Int) ≤ (k : Int) + 1) := by rw [hck] at hT; show _ ∧ _; simp at hT; omega
              clear hT hck
              obtain ⟨t1, t2⟩ := T.out
              have ha : decide ((k : Int) + 1 ≤ 128 - (y : Int)) = true := by simpa using t1
              have hb2 : decide (129 - (x : Int) ≤ (k : Int) + 1) = true := by simpa using t2
              go_wp2
              go_roundw
              case rel => exact ⟨k + 1, by omega, by go_num, by rw [HE.out]; exact hown, hb⟩
              case measure => simp [intOf] <;> omega
          · obtain rfl : k = 16 := by omega
            go_wp2
            go_ret
            exact ⟨⟨_, rfl, by rw [HC.out]; exact hown⟩, hb⟩
theorem model_any (s : Nat) (hs : s < M128) (P S : List Nat) (pa : Option Addr) (pc : Nat) (sa : Option Addr) (sc : Nat) (hP : ∀ n ∈ P, n < M128) (hS : ∀ n ∈ S, n < M128) (hle : S.length ≤ P.length) (hlen : S.length ≤ 2 ^ 20)
    (w : World) (h1 : Seq w pa P) (h2 : Seq w sa S) :
    Calls Try.prog 11 #[.agg (bs s), .slice pa P.length pc, .slice sa S.length sc] w fun e w' =>
      (∃ v, e = .returned v ∧ w'.ownsRow w.heap.size 3 1 v (modL s P S).length (iV (modL s P S))) ∧ Below w.heap.size w w' := by
  by_cases hS0 : S = []
  · subst hS0
    refine (model_none s pa P.length pc sa sc w).mono ?_
    rintro e w' ⟨rfl, hb⟩
    exact ⟨⟨_, rfl, World.ownsRow_nil _ _ _ _⟩, hb⟩
  · have hl : 0 < S.length := List.length_pos_iff.2 hS0
    obtain ⟨m, hm⟩ : ∃ m, S.length = m + 1 := ⟨S.length - 1, by omega⟩
    have hp : P[m]? = some (P.getD m 0) := by rw [List.getD_eq_getElem?_getD, List.getElem?_eq_getElem (by omega)]; rfl
    have hq : S[m]? = some (S.getD m 0) := by rw [List.getD_eq_getElem?_getD, List.getElem?_eq_getElem (by omega)]; rfl
    have e : modL s P S = modQ S (P.getD m 0) (S.getD m 0) s := by unfold modL; rw [if_neg hS0, hm]; rfl
    have := model_some s hs pa P.length pc sa m sc P S _ _ hP hS hm (by omega) (by omega) hp hq w h1 h2
    rw [e, hm]
    exact this
end Go.Proofs.Qxb6631297a
