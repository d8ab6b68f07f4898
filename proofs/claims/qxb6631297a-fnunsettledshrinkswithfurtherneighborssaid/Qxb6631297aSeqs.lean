/-
  The law's containsID, toIDs, shiftedIDs, WALKED.
-/
import Derived.Test.Qxb6631297aUns
namespace Go.Proofs.Qxb6631297a
open Go.RowKit
set_option linter.unusedSimpArgs false
structure SX (w : World) (a : Option Addr) (L : List Nat) (v : Nat) (w' : World) : Prop where
  val : At w' 22 w.heap.size v
  seq : Seq w' a L
  below : Below w.heap.size w w'
theorem SX.drew {w : World} {a : Option Addr} {L : List Nat} {v : Nat} {w' : World} (h : SX w a L v w') : SX w a L v w'.drew := ⟨h.val, h.seq, h.below.drew⟩
set_option maxHeartbeats 800000 in
theorem containsID_any (a : Option Addr) (cap : Nat) (L : List Nat) (v : Nat) (hv : v < M128) (hL : ∀ n ∈ L, n < M128) (hlen : L.length ≤ 2 ^ 21) (w : World) (hs : Seq w a L) :
    Calls Try.prog 18 #[.slice a L.length cap, .agg (bs v)] w fun e w' => e = .returned (.bool (L.contains v)) ∧ Below w.heap.size w w' := by
  have hSX : SX w a L v (w.alloc (.cells (bs v) 22)) := ⟨At.new w 22 v, hs.alloc _, (Below.refl _ _).alloc (Nat.le_refl _) _⟩
  go_enter Try.func18, Try.ntmps18
  go_wp2
  go_loopw [5] (fun i wr => ∃ k : Nat, k ≤ L.length ∧ i = .int .i64 (k : Int) ∧ (∀ j n, j < k → L[j]? = some n → n ≠ v) ∧ SX w a L v wr) (fun i _ => L.length - (intOf i).toNat)
  case atStart => exact ⟨0, Nat.zero_le _, rfl, fun j n hj => by omega, hSX⟩
  case round =>
    clear hSX
    obtain ⟨k, hk, rfl, hno, hSX⟩ := hrel
    have HN : Hid _ := hno
    clear hno
    by_cases hlt : k < L.length
    · obtain ⟨n, hn⟩ : ∃ n, L[k]? = some n := ⟨_, List.getElem?_eq_getElem hlt⟩
      obtain ⟨b, off, rfl⟩ := hSX.seq.addr hn
      have hnM := hL n (List.mem_of_getElem? hn)
      have HN2 : Hid _ := hn
      have hkI : (k : Int) < (L.length : Int) := by omega
      have hk0 : (0 : Int) ≤ (k : Int) := by omega
      clear hn
      by_cases he : n = v
      · have HE : Hid _ := he
        clear he
        go_wp2
        refine wp_region_held_drew (S := SX w (some ⟨b, off, none⟩) L v) (by kernel_rfl) hSX.drew (fun hHeld => ?_)
        refine wpAnyH_take (i := 0) (v := .slice (some ⟨b, off, none⟩) L.length cap) (op_at rfl) (by kernel_rfl) (by kernel_rfl) (by kernel_rfl) (fun _ _ _ h => h) (Or.inl ⟨by rfl, fun w hSw => rfl⟩) hHeld ?_
        simp only [Act.put, List.setIfInBounds_toArray, List.set_cons_zero, List.set_cons_succ]
        refine wpAnyH_take (i := 1) (v := .int .i64 (k : Int)) (op_at rfl) (by kernel_rfl) (by kernel_rfl) (by kernel_rfl) (fun _ _ _ h => h) (Or.inl ⟨by rfl, fun w hSw => rfl⟩) hHeld ?_
        simp only [Act.put, List.setIfInBounds_toArray, List.set_cons_zero, List.set_cons_succ]
        refine wpAnyH_take (i := 2) (v := .pointer (some ⟨b, off + k * 16, none⟩)) (op_at rfl) (by kernel_rfl) (by kernel_rfl) (by kernel_rfl) (fun _ _ _ h => h) (Or.inl ⟨by rfl, fun w hSw => by go_simp⟩) hHeld ?_
        simp only [Act.put, List.setIfInBounds_toArray, List.set_cons_zero, List.set_cons_succ]
        refine wpAnyH_take (i := 3) (v := .agg (bs n)) (op_at rfl) (by kernel_rfl) (by kernel_rfl) (by kernel_rfl) (fun _ _ _ h => h) (yldm (by rfl) 22 _ rfl .a b (off + k * 16) rfl n (fun _ h => h.seq.range HN2.out)) hHeld ?_
        simp only [Act.put, List.setIfInBounds_toArray, List.set_cons_zero, List.set_cons_succ]
        refine wpAnyH_take (i := 4) (v := .agg (bs v)) (op_at rfl) (by kernel_rfl) (by kernel_rfl) (by kernel_rfl) (fun _ _ _ h => h) (yld (by rfl) 22 _ rfl .a w.heap.size rfl v 22 (fun _ h => h.val)) hHeld ?_
        simp only [Act.put, List.setIfInBounds_toArray, List.set_cons_zero, List.set_cons_succ]
        refine wpAnyH_take (i := 5) (v := .bool true) (op_at rfl) (by kernel_rfl) (by kernel_rfl) (by kernel_rfl) (fun _ _ _ h => h) (yld_eql (by rfl) 22 _ _ 22 rfl .a Try.guard22 n v rfl rfl hnM hv _ (by simp [HE.out])) hHeld ?_
        simp only [Act.put, List.setIfInBounds_toArray, List.set_cons_zero, List.set_cons_succ]
        refine wpAnyH_done (by kernel_rfl) ?_ _
        go_wp2
        go_ret
        exact ⟨ret_bool (by
          have : v ∈ L := by rw [← HE.out]; exact List.mem_of_getElem? HN2.out
          simpa using this), hHeld.below⟩
      · have HE : Hid _ := he
        clear he
        go_wp2
        refine wp_region_held_drew (S := SX w (some ⟨b, off, none⟩) L v) (by kernel_rfl) hSX.drew (fun hHeld => ?_)
        refine wpAnyH_take (i := 0) (v := .slice (some ⟨b, off, none⟩) L.length cap) (op_at rfl) (by kernel_rfl) (by kernel_rfl) (by kernel_rfl) (fun _ _ _ h => h) (Or.inl ⟨by rfl, fun w hSw => rfl⟩) hHeld ?_
        simp only [Act.put, List.setIfInBounds_toArray, List.set_cons_zero, List.set_cons_succ]
        refine wpAnyH_take (i := 1) (v := .int .i64 (k : Int)) (op_at rfl) (by kernel_rfl) (by kernel_rfl) (by kernel_rfl) (fun _ _ _ h => h) (Or.inl ⟨by rfl, fun w hSw => rfl⟩) hHeld ?_
        simp only [Act.put, List.setIfInBounds_toArray, List.set_cons_zero, List.set_cons_succ]
        refine wpAnyH_take (i := 2) (v := .pointer (some ⟨b, off + k * 16, none⟩)) (op_at rfl) (by kernel_rfl) (by kernel_rfl) (by kernel_rfl) (fun _ _ _ h => h) (Or.inl ⟨by rfl, fun w hSw => by go_simp⟩) hHeld ?_
        simp only [Act.put, List.setIfInBounds_toArray, List.set_cons_zero, List.set_cons_succ]
        refine wpAnyH_take (i := 3) (v := .agg (bs n)) (op_at rfl) (by kernel_rfl) (by kernel_rfl) (by kernel_rfl) (fun _ _ _ h => h) (yldm (by rfl) 22 _ rfl .a b (off + k * 16) rfl n (fun _ h => h.seq.range HN2.out)) hHeld ?_
        simp only [Act.put, List.setIfInBounds_toArray, List.set_cons_zero, List.set_cons_succ]
        refine wpAnyH_take (i := 4) (v := .agg (bs v)) (op_at rfl) (by kernel_rfl) (by kernel_rfl) (by kernel_rfl) (fun _ _ _ h => h) (yld (by rfl) 22 _ rfl .a w.heap.size rfl v 22 (fun _ h => h.val)) hHeld ?_
        simp only [Act.put, List.setIfInBounds_toArray, List.set_cons_zero, List.set_cons_succ]
        refine wpAnyH_take (i := 5) (v := .bool false) (op_at rfl) (by kernel_rfl) (by kernel_rfl) (by kernel_rfl) (fun _ _ _ h => h) (yld_eql (by rfl) 22 _ _ 22 rfl .a Try.guard22 n v rfl rfl hnM hv _ (beq_eq_false_iff_ne.2 HE.out).symm) hHeld ?_
        simp only [Act.put, List.setIfInBounds_toArray, List.set_cons_zero, List.set_cons_succ]
        refine wpAnyH_done (by kernel_rfl) ?_ _
        go_wp2
        go_roundw
        case rel => exact ⟨k + 1, by omega, by go_num, fun j m hj hm => by
          by_cases e : j = k
          · subst e
            have := HN2.out.symm.trans hm
            simp at this
            subst this
            exact HE.out
          · exact HN.out j m (by omega) hm, hHeld⟩
        case measure => simp [intOf] <;> omega
    · go_wp2
      go_ret
      exact ⟨ret_bool (by
        have : v ∉ L := fun h => by
          obtain ⟨j, hj⟩ := List.getElem?_of_mem h
          have hjl := (List.getElem?_eq_some_iff.1 hj).1
          exact HN.out j v (by omega) hj rfl
        symm
        simpa using this), hSX.below⟩
theorem Try.info27 : (Try.prog.info? 27).map (fun i => (i.zero, i.size, i.bytes)) = some (some (.agg (bs 0)), 16, 16) := by kernel_rfl
theorem there_of_own {w : World} {base e g n : Nat} {xs : List Value} (h : w.ownsRow base e 16 (.slice (some ⟨g, 0, none⟩) n n) n xs) : w.there g 0 (n * 16) := by
  rcases h.2 with ⟨hv, _⟩ | ⟨g', cap, cur, hv, _, hg, _, _, hsz, _⟩
  · simp at hv
  · simp at hv
    obtain ⟨rfl, rfl⟩ := hv
    intro j hj
    rw [Nat.zero_add]
    refine ⟨?_, frozen_of_row w g j cur e hg⟩
    rw [cell_of_row w g j cur e (0, 0) hg, Array.getElem?_eq_getElem (by omega)]
    rfl
theorem there_at {w : World} {g n k : Nat} (h : w.there g 0 (n * 16)) (hk : k < n) : w.there g (k * 16) 16 := fun j hj => by
  have := h (k * 16 + j) (by omega)
  rwa [Nat.zero_add] at this
structure ST (w : World) (g k : Nat) (L : List Nat) (w' : World) : Prop where
  there : w'.there g 0 (L.length * 16)
  done : ∀ j m, j < k → L[j]? = some m → w'.rangeAt g (j * 16) (bl m)
  below : Below w.heap.size w w'
theorem below_setCells {B : Nat} {a : World} {g : Nat} (hg : B ≤ g) : ∀ (cs : List Value) (o : Nat) (w : World), Below B a w → Below B a (w.setCells g o cs)
  | [], _, _, h => h
  | v :: cs, o, w, h => by
    rw [World.setCells]
    exact below_setCells hg cs (o + 1) _ (h.setCell (p := ⟨g, o, none⟩) hg v)
theorem ST.next {w : World} {g k m : Nat} {L : List Nat} {w' : World} (h : ST w g k L w') (hg : w.heap.size ≤ g) (hk : k < L.length) (hm : L[k]? = some m) : ST w g (k + 1) L (w'.setCells g (k * 16) (bl m)) := by
  refine ⟨World.there_setCells h.there _ _ _, fun j n hj hn => ?_, below_setCells hg _ _ _ h.below⟩
  by_cases e : j = k
  · subst e
    have := hm.symm.trans hn
    simp at this
    subst this
    refine World.rangeAt_setCells_same _ _ _ _ ?_
    rw [bl_length]
    exact there_at h.there hk
  · refine World.rangeAt_setCells_apart (h.done j n (by omega) hn) _ _ _ (.inr ?_)
    rw [bl_length, bl_length]
    omega
theorem ST.seq {w : World} {g : Nat} {L : List Nat} {w' : World} (h : ST w g L.length L w') : Seq w' (some ⟨g, 0, none⟩) L :=
  .inr ⟨g, 0, rfl, fun i n hi => by
    have hl := (List.getElem?_eq_some_iff.1 hi).1
    rw [Nat.zero_add]
    exact h.done i n hl hi⟩
theorem wpList_sm {ops : Array Oper} {rest : List Oper} {o : Oper} {a : Act} {w : World} {Q : Exit → Act → World → Prop} (hgd : o.guard = none) (t : TypeId) (x y : Operand) (ho : o.op = .store t x y) (ht : IdT t)
    (b off m : Nat) (hx : a.eval x = .pointer (some ⟨b, off, none⟩)) (hy : a.eval y = .agg (bs m)) (hT : w.there b off 16)
    (h : wpList Try.prog ops Q rest (a.put o.dst undef) (w.setCells b off (bl m))) : wpList Try.prog ops Q (o :: rest) a w :=
  wpList_store_mid hgd t x y ho b off (bs m) hx hy (by rw [bs_size]; exact hT) (ht.size m) (bs_one m) h

set_option maxHeartbeats 800000 in
theorem toIDs_some (b off cap : Nat) (sp : Option Nat) (L : List Nat) (hlen : L.length ≤ 2 ^ 21) (w : World) (hs : Seq w (some ⟨b, off, sp⟩) L) :
    Calls Try.prog 7 #[.slice (some ⟨b, off, sp⟩) L.length cap] w fun e w' => (∃ a' c', e = .returned (.slice a' L.length c') ∧ Seq w' a' L) ∧ Below w.heap.size w w' := by
  obtain ⟨i0, hi, hz0, hz1, hz2⟩ := info_parts Try.info27
  have hnil := fun wx => Lib.run_eql_slice_nil (P := Try.prog) wx 23 22 (some ⟨b, off, sp⟩) L.length cap 0 0 Try.underlying23
  go_enter Try.func7, Try.ntmps7
  go_wp2_with (first | (at_make; refine wpList_make_full _ rfl _ _ 28 rfl w.heap.size 27 i0 (.agg (bs 0)) 16 Try.underlying28 hi hz0 hz1 .i64 .i64 _ _ L.length rfl rfl rfl rfl (by rw [hz2]; omega) (by unfold maxLen; omega) (Nat.le_refl _) ?_))
  intro w1 hown hg
  have hST : ST w w.heap.size 0 L w1 := ⟨there_of_own hown, fun j m hj => by omega, ⟨hg.os, hg.tape, hg.output, hg.size, fun k hk => hg.block k hk (by simp)⟩⟩
  clear hown hg
  go_wp2
  go_loopw [4] (fun i wr => ∃ k : Nat, k ≤ L.length ∧ i = .int .i64 (k : Int) ∧ ST w w.heap.size k L wr) (fun i _ => L.length - (intOf i).toNat)
  case atStart => exact ⟨0, Nat.zero_le _, rfl, hST⟩
  case round =>
    clear hST
    obtain ⟨k, hk, rfl, hST⟩ := hrel
    by_cases hlt : k < L.length
    · obtain ⟨n, hn⟩ : ∃ n, L[k]? = some n := ⟨_, List.getElem?_eq_getElem hlt⟩
      obtain ⟨b', off', e⟩ := (hs.kept hST.below).addr hn
      obtain ⟨e1, e2, e3⟩ : b = b' ∧ off = off' ∧ sp = none := by simpa using e
      subst e1 e2 e3
      have hr := (hs.kept hST.below).range hn
      have ht := there_at hST.there hlt
      have hnx := hST.next (Nat.le_refl _) hlt hn
      clear hn e
      go_wp2_with (first | (refine wpList_lm (by rfl) 22 _ (by rfl) .a b (off + k * 16) (by rfl) n (by exact hr) ?_) | (refine wpList_sm (by rfl) 27 _ _ (by rfl) .b w.heap.size (k * 16) n (by rfl) (by rfl) (by exact ht) ?_))
      go_roundw
      case rel => exact ⟨k + 1, by omega, by go_num, hnx⟩
      case measure => simp [intOf] <;> omega
    · obtain rfl : k = L.length := by omega
      go_wp2
      go_ret
      exact ⟨⟨_, _, rfl, hST.seq⟩, hST.below⟩
set_option maxHeartbeats 800000 in
theorem toIDs_nil (w : World) : Calls Try.prog 7 #[.slice none 0 0] w fun e w' => (∃ a' c', e = .returned (.slice a' 0 c') ∧ Seq w' a' []) ∧ Below w.heap.size w w' := by
  have hnil := fun wx => Lib.run_eql_slice_nil (P := Try.prog) wx 23 22 none 0 0 0 0 Try.underlying23
  go_enter Try.func7, Try.ntmps7
  go_wp2
  go_ret
  exact ⟨⟨_, _, rfl, .inl rfl⟩, Below.refl _ _⟩
/-- A slice that came in: nil, or it leads somewhere. -/
theorem toIDs_any (a : Option Addr) (cap : Nat) (L : List Nat) (hnil : a = none → L = [] ∧ cap = 0) (hlen : L.length ≤ 2 ^ 21) (w : World) (hs : Seq w a L) :
    Calls Try.prog 7 #[.slice a L.length cap] w fun e w' => (∃ a' c', e = .returned (.slice a' L.length c') ∧ Seq w' a' L) ∧ Below w.heap.size w w' := by
  cases a with
  | none => obtain ⟨rfl, rfl⟩ := hnil rfl; exact toIDs_nil w
  | some x => obtain ⟨b, off, sp⟩ := x; exact toIDs_some b off cap sp L hlen w hs
theorem wp_sm {o : Oper} {a : Act} {w : World} {K : Act → World → Prop} {Q : Exit → Act → World → Prop} (t : TypeId) (x y : Operand) (ho : o.op = .store t x y) (ht : IdT t)
    (b off m : Nat) (hx : a.eval x = .pointer (some ⟨b, off, none⟩)) (hy : a.eval y = .agg (bs m)) (hT : w.there b off 16)
    (h : K (a.put o.dst undef) (w.setCells b off (bl m))) : o.wp Try.prog a w K Q :=
  wp_store_mid t x y ho b off (bs m) hx hy (by rw [bs_size]; exact hT) (ht.size m) (bs_one m) h
theorem there_kept {w w1 : World} {g n : Nat} (h : w.there g 0 n) (hb : Below w.heap.size w w1) : w1.there g 0 n := fun j hj => by
  obtain ⟨v, hv⟩ := Option.isSome_iff_exists.1 (h j hj).1
  have hlt := block_lt_of_cell hv
  rw [hb.cell (p := ⟨g, 0 + j, none⟩) hlt, hb.frozen (p := ⟨g, 0 + j, none⟩) hlt]
  exact h j hj
theorem ST.then {w : World} {g k : Nat} {L : List Nat} {w1 w2 : World} (h : ST w g k L w1) (hb : Below w1.heap.size w1 w2) : ST w g k L w2 :=
  ⟨there_kept h.there hb, fun j m hj hm => range_kept (h.done j m hj hm) hb, bthen h.below hb⟩
theorem ST.drew {w : World} {g k : Nat} {L : List Nat} {w1 : World} (h : ST w g k L w1) : ST w g k L w1.drew := ⟨h.there, h.done, h.below.drew⟩
theorem ST.less {w : World} {g k : Nat} {L : List Nat} {w1 : World} (h : ST w g (k + 1) L w1) : ST w g k L w1 := ⟨h.there, fun j m hj hm => h.done j m (by omega) hm, h.below⟩
theorem At.setCells_other {w : World} {t g n g' : Nat} (h : At w t g n) (hne : g ≠ g') : ∀ (cs : List Value) (o : Nat) (w : World), At w t g n → At (w.setCells g' o cs) t g n
  | [], _, _, h => h
  | v :: cs, o, w, h' => by
    rw [World.setCells]
    exact At.setCells_other h hne cs (o + 1) _ (h'.setCell_other ⟨g', o, none⟩ v hne)
structure SS (w : World) (g k c : Nat) (L : List Nat) (w' : World) : Prop where
  st : ST w g k L w'
  c : At w' 22 w.heap.size c
theorem SS.then {w : World} {g k c : Nat} {L : List Nat} {w1 w2 : World} (h : SS w g k c L w1) (hb : Below w1.heap.size w1 w2) : SS w g k c L w2 := ⟨h.st.then hb, h.c.kept hb⟩
theorem SS.drew {w : World} {g k c : Nat} {L : List Nat} {w1 : World} (h : SS w g k c L w1) : SS w g k c L w1.drew := ⟨h.st.drew, h.c⟩
theorem SS.next {w : World} {g k c m : Nat} {L : List Nat} {w' : World} (h : SS w g k c L w') (hg : w.heap.size < g) (hk : k < L.length) (hm : L[k]? = some m) : SS w g (k + 1) c L (w'.setCells g (k * 16) (bl m)) :=
  ⟨h.st.next (by omega) hk hm, At.setCells_other h.c (by omega) _ _ _ h.c⟩
theorem SS.less {w : World} {g k c : Nat} {L : List Nat} {w1 : World} (h : SS w g (k + 1) c L w1) : SS w g k c L w1 := ⟨h.st.less, h.c⟩

set_option maxHeartbeats 800000 in
theorem shifted_some (b off cap : Nat) (sp : Option Nat) (L : List Nat) (c : Nat) (hlen : L.length ≤ 2 ^ 21) (w : World) (hs : Seq w (some ⟨b, off, sp⟩) L) :
    Calls Try.prog 10 #[.slice (some ⟨b, off, sp⟩) L.length cap, .agg (bs c)] w fun e w' => (∃ a' c', e = .returned (.slice a' L.length c') ∧ Seq w' a' (L.map (add · c))) ∧ Below w.heap.size w w' := by
  obtain ⟨i0, hi, hz0, hz1, hz2⟩ := info_parts Try.info27
  have hnil := fun wx => Lib.run_eql_slice_nil (P := Try.prog) wx 23 22 (some ⟨b, off, sp⟩) L.length cap 0 0 Try.underlying23
  have hA := At.new w 22 c
  have hB := (Below.refl w.heap.size w).alloc (Nat.le_refl _) (.cells (bs c) 22)
  go_enter Try.func10, Try.ntmps10
  go_wp2_with (first | (at_make; refine wpList_make_full _ rfl _ _ 28 rfl (w.heap.size + 1) 27 i0 (.agg (bs 0)) 16 Try.underlying28 hi hz0 hz1 .i64 .i64 _ _ L.length rfl rfl rfl rfl (by rw [hz2]; omega) (by unfold maxLen; omega) (by simp) ?_))
  intro w1 hown hg
  have hlm : (L.map (add · c)).length = L.length := by simp
  have hSS : SS w (w.heap.size + 1) 0 c (L.map (add · c)) w1 := ⟨⟨by rw [hlm]; exact there_of_own (by simpa using hown), fun j m hj => by omega, bthen hB ⟨hg.os, hg.tape, hg.output, hg.size, fun k hk => hg.block k hk (by simp)⟩⟩, hA.grown hg (by simp)⟩
  clear hown hg hA hB hlm
  go_wp2
  go_loopw [6] (fun i wr => ∃ k : Nat, k ≤ L.length ∧ i = .int .i64 (k : Int) ∧ SS w (w.heap.size + 1) k c (L.map (add · c)) wr) (fun i _ => L.length - (intOf i).toNat)
  case atStart => exact ⟨0, Nat.zero_le _, rfl, hSS⟩
  case round =>
    clear hSS
    obtain ⟨k, hk, rfl, hSS⟩ := hrel
    by_cases hlt : k < L.length
    · obtain ⟨n, hn⟩ : ∃ n, L[k]? = some n := ⟨_, List.getElem?_eq_getElem hlt⟩
      obtain ⟨b', off', e⟩ := hs.addr hn
      obtain ⟨e1, e2, e3⟩ : b = b' ∧ off = off' ∧ sp = none := by simpa using e
      subst e1 e2 e3
      have HN : Hid _ := hn
      have HM : Hid ((L.map (add · c))[k]? = some (add n c)) := show (L.map (add · c))[k]? = some (add n c) by rw [List.getElem?_map, hn]; rfl
      have HL : Hid (k < (L.map (add · c)).length) := show k < (L.map (add · c)).length by simpa using hlt
      have HTH : Hid ((L.map (add · c)).length = L.length) := show (L.map (add · c)).length = L.length by simp
      have hkI : (k : Int) < (L.length : Int) := by omega
      have hk0 : (0 : Int) ≤ (k : Int) := by omega
      clear hn e
      generalize L.map (add · c) = L' at *
      go_wp2
      refine wp_region_held_drew (S := SS w (w.heap.size + 1) k c L') (by kernel_rfl) hSS.drew (fun hHeld => ?_)
      refine wpAnyH_take (i := 0) (v := .slice (some ⟨w.heap.size + 1, 0, none⟩) L.length L.length) (op_at rfl) (by kernel_rfl) (by kernel_rfl) (by kernel_rfl) (fun _ _ _ h => h) (Or.inl ⟨by rfl, fun w hSw => rfl⟩) hHeld ?_
      simp only [Act.put, List.setIfInBounds_toArray, List.set_cons_zero, List.set_cons_succ]
      refine wpAnyH_take (i := 1) (v := .int .i64 (k : Int)) (op_at rfl) (by kernel_rfl) (by kernel_rfl) (by kernel_rfl) (fun _ _ _ h => h) (Or.inl ⟨by rfl, fun w hSw => rfl⟩) hHeld ?_
      simp only [Act.put, List.setIfInBounds_toArray, List.set_cons_zero, List.set_cons_succ]
      refine wpAnyH_take (i := 2) (v := .slice (some ⟨b, off, none⟩) L.length cap) (op_at rfl) (by kernel_rfl) (by kernel_rfl) (by kernel_rfl) (fun _ _ _ h => h) (Or.inl ⟨by rfl, fun w hSw => rfl⟩) hHeld ?_
      simp only [Act.put, List.setIfInBounds_toArray, List.set_cons_zero, List.set_cons_succ]
      refine wpAnyH_take (i := 3) (v := .int .i64 (k : Int)) (op_at rfl) (by kernel_rfl) (by kernel_rfl) (by kernel_rfl) (fun _ _ _ h => h) (Or.inl ⟨by rfl, fun w hSw => rfl⟩) hHeld ?_
      simp only [Act.put, List.setIfInBounds_toArray, List.set_cons_zero, List.set_cons_succ]
      refine wpAnyH_take (i := 4) (v := .pointer (some ⟨b, off + k * 16, none⟩)) (op_at rfl) (by kernel_rfl) (by kernel_rfl) (by kernel_rfl) (fun _ _ _ h => h) (Or.inl ⟨by rfl, fun w hSw => by go_simp⟩) hHeld ?_
      simp only [Act.put, List.setIfInBounds_toArray, List.set_cons_zero, List.set_cons_succ]
      refine wpAnyH_take (i := 5) (v := .agg (bs n)) (op_at rfl) (by kernel_rfl) (by kernel_rfl) (by kernel_rfl) (fun _ _ _ h => h) (yldm (by rfl) 22 _ rfl .a b (off + k * 16) rfl n (fun _ h => (hs.kept h.st.below).range HN.out)) hHeld ?_
      simp only [Act.put, List.setIfInBounds_toArray, List.set_cons_zero, List.set_cons_succ]
      refine wpAnyH_take (i := 6) (v := .agg (bs c)) (op_at rfl) (by kernel_rfl) (by kernel_rfl) (by kernel_rfl) (fun _ _ _ h => h) (yld (by rfl) 22 _ rfl .a w.heap.size rfl c 22 (fun _ h => h.c)) hHeld ?_
      simp only [Act.put, List.setIfInBounds_toArray, List.set_cons_zero, List.set_cons_succ]
      refine wpAnyH_ready (rs := [7]) (by kernel_rfl) (by simp) ?_
      refine AllReadyH.cons (op_at rfl) (fun K hK => ?_) AllReadyH.nil
      go_simp
      refine (add_any n c _).mono ?_
      rintro e w5 ⟨rfl, hb5⟩
      refine hK.out _ _ (hHeld.then hb5) (fun hHeld' => ?_)
      clear hK K hHeld
      have hHeld := hHeld'
      clear hHeld'
      try simp only [Act.put, List.setIfInBounds_toArray, List.set_cons_zero, List.set_cons_succ]
      generalize add n c = m at *
      refine wpAnyH_take (i := 8) (v := .pointer (some ⟨w.heap.size + 1, k * 16, none⟩)) (op_at rfl) (by kernel_rfl) (by kernel_rfl) (by kernel_rfl) (fun _ _ _ h => h) (Or.inl ⟨by rfl, fun w hSw => by go_simp⟩) hHeld ?_
      simp only [Act.put, List.setIfInBounds_toArray, List.set_cons_zero, List.set_cons_succ]
      have hnx := hHeld.next (by omega) HL.out HM.out
      have hth := there_at (n := L'.length) hHeld.st.there HL.out
      refine wpAnyH_ready (rs := [9]) (by kernel_rfl) (by simp) ?_
      refine AllReadyH.cons (op_at rfl) (fun K hK => ?_) AllReadyH.nil
      rw [if_pos (by rfl)]
      refine wp_sm 27 _ _ rfl .b (w.heap.size + 1) (k * 16) m rfl rfl hth ?_
      refine hK.out _ _ (hnx.less) (fun hHeld' => ?_)
      clear hK K hHeld
      have hHeld := hHeld'
      clear hHeld'
      try simp only [Act.put, List.setIfInBounds_toArray, List.set_cons_zero, List.set_cons_succ]
      refine wpAnyH_done (by kernel_rfl) ?_ _
      go_wp2
      go_roundw
      case rel => exact ⟨k + 1, by omega, by go_num, hnx⟩
      case measure => simp [intOf] <;> omega
    · obtain rfl : k = L.length := by omega
      have hfin : Seq wr (some ⟨w.heap.size + 1, 0, none⟩) (L.map (add · c)) := by
        have h := hSS.st
        have e : L.length = (L.map (add · c)).length := by simp
        rw [e] at h
        exact h.seq
      go_wp2
      go_ret
      exact ⟨⟨_, _, rfl, hfin⟩, hSS.st.below⟩
set_option maxHeartbeats 800000 in
theorem shifted_nil (c : Nat) (w : World) : Calls Try.prog 10 #[.slice none 0 0, .agg (bs c)] w fun e w' => (∃ a' c', e = .returned (.slice a' 0 c') ∧ Seq w' a' []) ∧ Below w.heap.size w w' := by
  have hnil := fun wx => Lib.run_eql_slice_nil (P := Try.prog) wx 23 22 none 0 0 0 0 Try.underlying23
  go_enter Try.func10, Try.ntmps10
  go_wp2
  go_ret
  exact ⟨⟨_, _, rfl, .inl rfl⟩, (Below.refl _ _).alloc (Nat.le_refl _) _⟩
theorem shifted_any (a : Option Addr) (cap : Nat) (L : List Nat) (c : Nat) (hnil : a = none → L = [] ∧ cap = 0) (hlen : L.length ≤ 2 ^ 21) (w : World) (hs : Seq w a L) :
    Calls Try.prog 10 #[.slice a L.length cap, .agg (bs c)] w fun e w' => (∃ a' c', e = .returned (.slice a' L.length c') ∧ Seq w' a' (L.map (add · c))) ∧ Below w.heap.size w w' := by
  cases a with
  | none => obtain ⟨rfl, rfl⟩ := hnil rfl; exact shifted_nil c w
  | some x => obtain ⟨b, off, sp⟩ := x; exact shifted_some b off cap sp L c hlen w hs
end Go.Proofs.Qxb6631297a
