/-
  record.Repeated, WALKED.
-/
import Derived.Test.Qxb6632277aStrs
import Derived.Deep.DeepAppendRoom
import Derived.Great.BuildSlice
namespace Go.Proofs.Qxb6632277a
open Go.RowKit
set_option linter.unusedSimpArgs false
set_option linter.unusedVariables false
/-- The records Rs lie in block b from off on. -/
def Recs (w : World) (b off : Nat) (Rs : List Rec) : Prop := ∀ i r, Rs[i]? = some r → w.rangeAt b (off + i * 36) (rs r).toList
def Atts (w : World) (g : Nat) (Rs : List Rec) : Prop := ∀ i r, Rs[i]? = some r → w.rangeAt g (i * 5) (tl r)
theorem range_lt {w : World} {b o : Nat} {cs : List Value} (h : w.rangeAt b o cs) (h0 : 0 < cs.length) : b < w.heap.size := by
  have := h 0 _ (List.getElem?_eq_getElem h0)
  exact block_lt_of_cell this
theorem range_below {w w1 : World} {B b o : Nat} {cs : List Value} (h : w.rangeAt b o cs) (hb : Below B w w1) (hlt : b < B) : w1.rangeAt b o cs := fun j v hv => by
  rw [hb.cell (p := ⟨b, o + j, none⟩) hlt]; exact h j v hv
theorem range_kept {w w1 : World} {b o : Nat} {cs : List Value} (h : w.rangeAt b o cs) (hb : Below w.heap.size w w1) : w1.rangeAt b o cs := by
  intro j v hv
  have hk := h j v hv
  rw [hb.cell (p := ⟨b, o + j, none⟩) (block_lt_of_cell hk)]
  exact hk
theorem Recs.kept {w w1 : World} {b off : Nat} {Rs : List Rec} (h : Recs w b off Rs) (hb : Below w.heap.size w w1) : Recs w1 b off Rs := fun i r hi => range_kept (h i r hi) hb
theorem Atts.kept {w w1 : World} {g : Nat} {Rs : List Rec} (h : Atts w g Rs) (hb : Below w.heap.size w w1) : Atts w1 g Rs := fun i r hi => range_kept (h i r hi) hb
/-- The record of a run: the last one's, its start the first's, its duration until the last one's end. -/
def rep (f l : Rec) (v : Value) : Rec := { l with att := v, du := wrap64 (wrap64 (l.st + l.du) - f.st), st := f.st }
theorem Try.info60 : (Try.prog.info? 60).map (fun i => (i.zero, i.size, i.bytes)) = some (some (.agg t0), 5, 56) := by kernel_rfl
def ats (Rs : List Rec) (k : Nat) : List Value := (Rs.take k).flatMap tl
theorem ats_length (Rs : List Rec) (k : Nat) (h : k ≤ Rs.length) : (ats Rs k).length = k * 5 := by
  induction k with
  | zero => simp [ats]
  | succ k ih =>
    rw [ats, List.take_add_one, List.getElem?_eq_getElem (show k < Rs.length by omega), List.flatMap_append, List.length_append]
    have := ih (by omega)
    rw [ats] at this
    rw [this]
    simp [tl]
    omega
theorem ats_succ (Rs : List Rec) (k : Nat) (r : Rec) (h : Rs[k]? = some r) : ats Rs (k + 1) = ats Rs k ++ tl r := by
  rw [ats, List.take_add_one, h, List.flatMap_append, ats]
  simp
/-- The state in the loop. -/
structure SR (w : World) (Rs : List Rec) (f l : Rec) (k : Nat) (w' : World) : Prop where
  z : At w' 55 w.heap.size (rs r0)
  f : At w' 55 (w.heap.size + 1) (rs f)
  l : At w' 55 (w.heap.size + 1 + 1) (rs { l with att := .slice (some ⟨w.heap.size + 1 + 1 + 1, 0, none⟩) k Rs.length })
  own : w'.ownsRow (w.heap.size + 1 + 1 + 1) 60 5 (.slice (some ⟨w.heap.size + 1 + 1 + 1, 0, none⟩) k Rs.length) k (ats Rs k)
  below : Below w.heap.size w w'
  size : w.heap.size + 1 + 1 + 1 < w'.heap.size
theorem own_kept {w w' : World} {B e size n : Nat} {v : Value} {xs : List Value} (h : w.ownsRow B e size v n xs) (hb : Below w.heap.size w w') : w'.ownsRow B e size v n xs := by
  refine ⟨h.1, ?_⟩
  rcases h.2 with hn | ⟨g, cap, cur, rfl, hg, hgg, rest⟩
  · exact .inl hn
  · exact .inr ⟨g, cap, cur, rfl, hg, by rw [hb.block g (Array.getElem?_eq_some_iff.1 hgg).1]; exact hgg, rest⟩
theorem SR.then {w : World} {Rs : List Rec} {f l : Rec} {k : Nat} {w1 w2 : World} (h : SR w Rs f l k w1) (hb : Below w1.heap.size w1 w2) : SR w Rs f l k w2 :=
  ⟨h.z.kept hb, h.f.kept hb, h.l.kept hb, own_kept h.own hb, bthen h.below hb, Nat.lt_of_lt_of_le h.size hb.size⟩
theorem SR.drew {w : World} {Rs : List Rec} {f l : Rec} {k : Nat} {w1 : World} (h : SR w Rs f l k w1) : SR w Rs f l k w1.drew := ⟨h.z, h.f, h.l, h.own, h.below.drew, h.size⟩
theorem ok0 : Ok r0 := ⟨rfl, rfl⟩

theorem wp_bs60 {o : Oper} {a : Act} {w : World} {K : Act → World → Prop} {Q : Exit → Act → World → Prop} (x : Operand) (ho : o.op = .buildSlice 49 1 #[(0, x)]) (r : Rec) (hx : a.eval x = .agg (ts r))
    (h : K (a.put o.dst (.slice (some ⟨w.heap.size, 0, none⟩) 1 1)) (w.alloc (.cells (ts r) 60))) : o.wp Try.prog a w K Q := by
  obtain ⟨i0, hi, hz0, hz1, hz2⟩ := info_parts Try.info60
  refine wp_buildSlice 49 60 1 _ ho (ts r) i0 (.agg t0) Try.underlying49 hi hz0 (by rw [hz1]; decide) (by rw [hz1]; decide) ?_ h
  rw [hz1]
  simp [hx]
  show _ = _
  kernel_rfl
theorem flat_get : ∀ (Rs : List Rec) (i : Nat) (r : Rec) (j : Nat) (v : Value), Rs[i]? = some r → (tl r)[j]? = some v → (Rs.flatMap tl)[i * 5 + j]? = some v
  | [], i, r, j, v, h, _ => by simp at h
  | a :: Rs, 0, r, j, v, h, hj => by
    simp at h
    subst h
    have : j < (tl a).length := (List.getElem?_eq_some_iff.1 hj).1
    rw [List.flatMap_cons, Nat.zero_mul, Nat.zero_add, List.getElem?_append_left this, hj]
  | a :: Rs, i + 1, r, j, v, h, hj => by
    have hi : Rs[i]? = some r := by simpa using h
    have := flat_get Rs i r j v hi hj
    rw [List.flatMap_cons, List.getElem?_append_right (by simp [tl]; omega)]
    rw [show (i + 1) * 5 + j - (tl a).length = i * 5 + j by simp [tl]; omega]
    exact this
theorem atts_of_own {w : World} {g B : Nat} {Rs : List Rec} (h : w.ownsRow B 60 5 (.slice (some ⟨g, 0, none⟩) Rs.length Rs.length) Rs.length (ats Rs Rs.length)) : Atts w g Rs := by
  intro i r hi j v hj
  rcases h.2 with ⟨e, _⟩ | ⟨g', c, cur, e, _, hh, _, _, hs, ht⟩
  · simp at e
  · simp at e
    obtain ⟨rfl, rfl⟩ := e
    have h1 := flat_get Rs i r j v hi hj
    have hil := (List.getElem?_eq_some_iff.1 hi).1
    have hj5 : j < 5 := by have := (List.getElem?_eq_some_iff.1 hj).1; simpa [tl] using this
    rw [ats, List.take_length] at ht
    rw [← ht, List.getElem?_take_of_lt (by omega)] at h1
    rw [cell_of_row w g _ _ _ _ hh]
    simpa using h1
theorem own_setRow {w : World} {B e size n g : Nat} {v : Value} {xs : List Value} (h : w.ownsRow B e size v n xs) (hg : g < B) (c : Array Value) : (w.setRow g c).ownsRow B e size v n xs := by
  refine ⟨h.1, ?_⟩
  rcases h.2 with hn | ⟨g', cap, cur, rfl, hg', hgg, rest⟩
  · exact .inl hn
  · exact .inr ⟨g', cap, cur, rfl, hg', by rw [Go.setRow_other _ _ _ _ (by omega)]; exact hgg, rest⟩
theorem news_new (w : World) (r : Rec) : ∀ j u, (tl r)[j]? = some u → (w.alloc (.cells (ts r) 60)).cell? ((⟨w.heap.size, 0, none⟩ : Addr).add j) = some u := by
  intro j u hj
  rw [Addr.add_mid, Nat.zero_add]
  exact (At.new w 60 (ts r)).cell j (by simpa [ts] using hj)
theorem tl_one (r : Rec) : ∀ u ∈ tl r, u.oneCell' = true := by
  intro u hu
  simp [tl] at hu
  rcases hu with rfl | rfl | rfl | rfl | rfl <;> rfl
theorem SR.next {w : World} {Rs : List Rec} {f l r : Rec} {k : Nat} {W w7 : World} (h : SR w Rs f l k W) (hA : ats Rs (k + 1) = ats Rs k ++ tl r)
    (ho : w7.ownsRow (w.heap.size + 1 + 1 + 1) 60 5 (.slice (some ⟨w.heap.size + 1 + 1 + 1, 0, none⟩) (k + 1) Rs.length) (k + 1) (ats Rs k ++ tl r)) (hg : W.grownBy w7 (some (w.heap.size + 1 + 1 + 1))) :
    SR w Rs f l (k + 1) (w7.setCell ⟨w.heap.size + 1 + 1, 32, none⟩ (.slice (some ⟨w.heap.size + 1 + 1 + 1, 0, none⟩) (k + 1) Rs.length)) :=
  ⟨(h.z.grown hg (by simp <;> omega)).setCell_other _ _ (by simp <;> omega), (h.f.grown hg (by simp <;> omega)).setCell_other _ _ (by simp), (h.l.grown hg (by simp)).setCell rfl,
   by rw [hA]; exact ownsRow_setCell_below ho (by simp) _, (h.below.grown hg h.below.size (fun k hk => by cases hk; omega)).setCell (by simp; omega) _, by have := h.size; have := hg.size; simp; omega⟩
set_option maxHeartbeats 4000000 in
theorem repeated_any (b off cap : Nat) (Rs : List Rec) (f l : Rec) (hf : Rs[0]? = some f) (hl : Rs[Rs.length - 1]? = some l) (hlen : Rs.length ≤ 2 ^ 20) (hok : ∀ (i : Nat) (r : Rec), Rs[i]? = some r → Ok r) (w : World) (hR : Recs w b off Rs) :
    Calls Try.prog 8 #[.slice (some ⟨b, off, none⟩) Rs.length cap] w fun e w' => (∃ g, e = .returned (.agg (rs (rep f l (.slice (some ⟨g, 0, none⟩) Rs.length Rs.length)))) ∧ w.heap.size ≤ g ∧ Atts w' g Rs) ∧ Below w.heap.size w w' := by
  obtain ⟨i0, hi, hz0, hz1, hz2⟩ := info_parts Try.info60
  have hpos : 0 < Rs.length := (List.getElem?_eq_some_iff.1 hf).1
  have hposI : (0 : Int) < (Rs.length : Int) := by omega
  have hF := hR 0 f hf
  rw [Nat.zero_mul, Nat.add_zero] at hF
  have hL := hR _ l hl
  have o1 := rs_one (hok _ _ hf)
  have o2 := rs_one (hok _ _ hl)
  have hB1 := (Below.refl w.heap.size w).alloc (Nat.le_refl _) (.cells (rs r0) 55)
  have hF1 := range_kept hF hB1
  have hB2 := hB1.alloc (by simp) (.cells (rs f) 55)
  have hL2 := range_kept hL hB2
  have HS : Hid (∀ w1, (((w.alloc (.cells (rs r0) 55)).alloc (.cells (rs f) 55)).alloc (.cells (rs l) 55)).grownBy w1 none → w1.ownsRow (w.heap.size + 1 + 1 + 1) 60 5 (.slice (some ⟨w.heap.size + 1 + 1 + 1, 0, none⟩) 0 Rs.length) 0 [] →
      At w1 55 (w.heap.size + 1 + 1) (rs l) ∧ SR w Rs f l 0 (w1.setCell ⟨w.heap.size + 1 + 1, 32, none⟩ (.slice (some ⟨w.heap.size + 1 + 1 + 1, 0, none⟩) 0 Rs.length))) := by
    intro w1 hg ho
    have hb : Below w.heap.size w w1 := (hB2.alloc (by simp; omega) (.cells (rs l) 55)).grown hg (by simp; omega) (fun k hk => by cases hk)
    have a1 : At w1 55 (w.heap.size + 1 + 1) (rs l) := (At.new' ((w.alloc (.cells (rs r0) 55)).alloc (.cells (rs f) 55)) 55 (rs l) (by simp)).grown hg (by simp)
    have a2 : At w1 55 (w.heap.size + 1) (rs f) := ((At.new' (w.alloc (.cells (rs r0) 55)) 55 (rs f) (by simp)).alloc _).grown hg (by simp)
    have a3 : At w1 55 w.heap.size (rs r0) := (((At.new w 55 (rs r0)).alloc _).alloc _).grown hg (by simp)
    refine ⟨a1, ⟨a3.setCell_other _ _ (by simp; omega), a2.setCell_other _ _ (by simp), a1.setCell rfl, ?_, hb.setCell (by simp; omega) _, ?_⟩⟩
    · exact ownsRow_setCell_below ho (by simp) _
    · have := hg.size
      have h3 : w.heap.size + 1 + 1 + 1 < w1.heap.size := by
        rcases ho.2 with ⟨e, _⟩ | ⟨g, c, cur, e, _, hh, _, _, hs, _⟩
        · simp at e
        · simp at e
          obtain ⟨rfl, rfl⟩ := e
          exact (Array.getElem?_eq_some_iff.1 hh).1
      simpa using h3
  have sf := rs_size f
  have sl := rs_size l
  have s0 := rs_size r0
  clear hF hL
  go_enter Try.func8, Try.ntmps8
  go_wp2_with (first | (refine wpList_al (by rfl) 55 (by rfl) (rs r0) z55 ?_) | (refine wpList_lm (by rfl) 55 _ (by rfl) L55 b off (by rfl) (rs f) (by exact hF1) (by exact sf) ?_) | (refine wpList_lm (by rfl) 55 _ (by rfl) L55 b (off + (Rs.length - 1) * 36) (by rfl) (rs l) (by exact hL2) (by exact sl) ?_) | (refine wpList_sn (by rfl) 55 _ _ (by rfl) L55 (rs r0) (rs f) (by rfl) (by rfl) s0 sf o1 ?_) | (refine wpList_sn (by rfl) 55 _ _ (by rfl) L55 (rs r0) (rs l) (by rfl) (by rfl) s0 sl o2 ?_) | (at_make; refine wpList_make_own _ rfl _ _ 49 rfl (w.heap.size + 1 + 1 + 1) 60 i0 (.agg t0) 5 Try.underlying49 hi hz0 hz1 .i64 .i64 _ Rs.length rfl rfl rfl (by rw [hz2]; omega) (by unfold maxLen; omega) (by simp) ?_))
  intro w1 ho hg
  obtain ⟨hA, hS⟩ := HS.out w1 hg ho
  have hc := hA.cell 32 (rs32 l)
  have hfr := hA.frozen 32
  clear ho hg HS hA hB1 hB2 hF1 hL2
  go_wp2
  generalize w1.setCell ⟨w.heap.size + 1 + 1, 32, none⟩ (.slice (some ⟨w.heap.size + 1 + 1 + 1, 0, none⟩) 0 Rs.length) = w2 at *
  clear hc hfr w1
  go_loopw [22] (fun i wr => ∃ k : Nat, k ≤ Rs.length ∧ i = .int .i64 (k : Int) ∧ SR w Rs f l k wr) (fun i _ => Rs.length - (intOf i).toNat)
  case atStart => exact ⟨0, Nat.zero_le _, rfl, hS⟩
  case round =>
    clear hS
    obtain ⟨k, hk, rfl, hS⟩ := hrel
    by_cases hlt : k < Rs.length
    · obtain ⟨r, hr⟩ : ∃ r, Rs[k]? = some r := ⟨_, List.getElem?_eq_getElem hlt⟩
      have hkI : (k : Int) < (Rs.length : Int) := by omega
      have hrg := (hR.kept hS.below) k r hr
      have o3 := rs_one (hok _ _ hr)
      have HV : Hid _ := attempt_any r
      have HA : Hid _ := ats_succ Rs k r hr
      have sc := rs_size r
      have hS1 : SR w Rs f l k (wr.alloc (.cells (rs r) 55)) ∧ At (wr.alloc (.cells (rs r) 55)) 55 wr.heap.size (rs r) := ⟨hS.then ((Below.refl _ _).alloc (Nat.le_refl _) _), At.new wr 55 _⟩
      clear hr
      generalize rs r = c at *
      go_wp2_with (first | (refine wpList_al (by rfl) 55 (by rfl) (rs r0) z55 ?_) | (refine wpList_lm (by rfl) 55 _ (by rfl) L55 b (off + k * 36) (by rfl) c (by exact hrg) (by exact sc) ?_) | (refine wpList_sn (by rfl) 55 _ _ (by rfl) L55 (rs r0) c (by rfl) (by rfl) s0 sc o3 ?_))
      generalize wr.alloc (.cells c 55) = w3 at *
      have X : SR w Rs f l k w3.drew ∧ At w3.drew 55 wr.heap.size c := ⟨hS1.1.drew, hS1.2.drew⟩
      refine wp_region_held_drew (S := fun w' => At w' 55 wr.heap.size c) (by kernel_rfl) X.2 (fun hHeld => ?_)
      have hwr := hS.size
      clear hS1 hS
      refine wpAnyH_take (i := 0) (v := .pointer (some ⟨w.heap.size + 1 + 1, 32, none⟩)) (op_at rfl) (by kernel_rfl) (by kernel_rfl) (by kernel_rfl) (fun _ _ _ h => h) (Or.inl ⟨by rfl, fun w hSw => by go_simp⟩) hHeld ?_
      simp only [Act.put, List.setIfInBounds_toArray, List.set_cons_zero, List.set_cons_succ]
      refine wpAnyH_take (i := 2) (v := .agg (c)) (op_at rfl) (by kernel_rfl) (by kernel_rfl) (by kernel_rfl) (fun _ _ _ h => h) (yld (by rfl) 55 _ rfl L55 wr.heap.size (0) rfl (c) sc (fun _ h => h.range)) hHeld ?_
      simp only [Act.put, List.setIfInBounds_toArray, List.set_cons_zero, List.set_cons_succ]
      refine wpAnyH_ready (rs := [1, 3]) (by kernel_rfl) (by simp) ?_
      refine AllReadyH.cons (op_at rfl) (fun K hK => ?_) ?_
      · rw [if_pos (by rfl)]
        have hcl := X.1.l.cell 32 (rs32 _)
        go_simp
        refine hK.out _ _ (X.2) (fun hHeld' => ?_)
        clear hK K hHeld
        have hHeld := hHeld'
        clear hHeld'
        try simp only [Act.put, List.setIfInBounds_toArray, List.set_cons_zero, List.set_cons_succ]
        clear hcl
        refine wpAnyH_ready (rs := [3]) (by kernel_rfl) (by simp) ?_
        refine AllReadyH.cons (op_at rfl) (fun K hK => ?_) AllReadyH.nil
        go_simp
        refine (HV.out _).mono ?_
        rintro e w5 ⟨rfl, hb5⟩
        refine hK.out _ _ (X.2.kept hb5) (fun hHeld' => ?_)
        clear hK K hHeld
        have hHeld := hHeld'
        clear hHeld'
        try simp only [Act.put, List.setIfInBounds_toArray, List.set_cons_zero, List.set_cons_succ]
        have X5 : SR w Rs f l k w5 ∧ At w5 55 wr.heap.size c := ⟨X.1.then hb5, X.2.kept hb5⟩
        clear X hb5
        have X := X5
        clear X5
        refine wpAnyH_ready (rs := [4]) (by kernel_rfl) (by simp) ?_
        refine AllReadyH.cons (op_at rfl) (fun K hK => ?_) AllReadyH.nil
        rw [if_pos (by rfl)]
        refine wp_bs60 _ rfl r rfl ?_
        refine hK.out _ _ (X.2.alloc _) (fun hHeld' => ?_)
        clear hK K hHeld
        have hHeld := hHeld'
        clear hHeld'
        try simp only [Act.put, List.setIfInBounds_toArray, List.set_cons_zero, List.set_cons_succ]
        have HN : Hid _ := news_new w5 r
        have X6 : SR w Rs f l k (w5.alloc (.cells (ts r) 60)) ∧ At (w5.alloc (.cells (ts r) 60)) 55 wr.heap.size c := ⟨X.1.then ((Below.refl _ _).alloc (Nat.le_refl _) _), X.2.alloc _⟩
        have hsn : w5.heap.size < (w5.alloc (.cells (ts r) 60)).heap.size := by simp
        clear X
        have X := X6
        clear X6
        generalize w5.heap.size = gn at *
        generalize w5.alloc (.cells (ts r) 60) = W at *
        refine wpAnyH_ready (rs := [5]) (by kernel_rfl) (by simp) ?_
        refine AllReadyH.cons (op_at rfl) (fun K hK => ?_) AllReadyH.nil
        rw [if_pos (by rfl)]
        refine wp_append_own_spare W _ _ 49 rfl (w.heap.size + 1 + 1 + 1) 60 i0 5 Try.underlying49 hi hz1 (w.heap.size + 1 + 1 + 1) k Rs.length _ rfl X.1.own ⟨gn, 0, none⟩ 1 1 (tl r) rfl rfl HN.out (tl_one r) (by omega) ?_
        intro w7 own7 grow7
        refine hK.out _ _ (X.2.grown grow7 (by simp; omega)) (fun hHeld' => ?_)
        clear hK K hHeld
        have hHeld := hHeld'
        clear hHeld'
        try simp only [Act.put, List.setIfInBounds_toArray, List.set_cons_zero, List.set_cons_succ]
        have hnx := X.1.next HA.out own7 grow7
        have hc7 := (X.1.l.grown grow7 (by simp)).cell 32 (rs32 _)
        have hf7 := (X.1.l.grown grow7 (by simp)).frozen 32
        have ha7 := (X.2.grown grow7 (by simp; omega)).setCell_other ⟨w.heap.size + 1 + 1, 32, none⟩ (.slice (some ⟨w.heap.size + 1 + 1 + 1, 0, none⟩) (k + 1) Rs.length) (by simp; omega)
        refine wpAnyH_take (i := 6) (v := .pointer (some ⟨w.heap.size + 1 + 1, 32, none⟩)) (op_at rfl) (by kernel_rfl) (by kernel_rfl) (by kernel_rfl) (fun _ _ _ h => h) (Or.inl ⟨by rfl, fun w hSw => by go_simp⟩) hHeld ?_
        simp only [Act.put, List.setIfInBounds_toArray, List.set_cons_zero, List.set_cons_succ]
        refine wpAnyH_ready (rs := [7]) (by kernel_rfl) (by simp) ?_
        refine AllReadyH.cons (op_at rfl) (fun K hK => ?_) AllReadyH.nil
        rw [if_pos (by rfl)]
        go_simp
        refine hK.out _ _ (ha7) (fun hHeld' => ?_)
        clear hK K hHeld
        have hHeld := hHeld'
        clear hHeld'
        try simp only [Act.put, List.setIfInBounds_toArray, List.set_cons_zero, List.set_cons_succ]
        refine wpAnyH_done (by kernel_rfl) ?_ _
        go_wp2
        go_roundw
        case rel => exact ⟨k + 1, by omega, by go_num, hnx⟩
        case measure => simp [intOf] <;> omega
      refine AllReadyH.cons (op_at rfl) (fun K hK => ?_) AllReadyH.nil
      go_simp
      refine (HV.out _).mono ?_
      rintro e w5 ⟨rfl, hb5⟩
      refine hK.out _ _ (X.2.kept hb5) (fun hHeld' => ?_)
      clear hK K hHeld
      have hHeld := hHeld'
      clear hHeld'
      try simp only [Act.put, List.setIfInBounds_toArray, List.set_cons_zero, List.set_cons_succ]
      have X5 : SR w Rs f l k w5 ∧ At w5 55 wr.heap.size c := ⟨X.1.then hb5, X.2.kept hb5⟩
      clear X hb5
      have X := X5
      clear X5
      refine wpAnyH_ready (rs := [1, 4]) (by kernel_rfl) (by simp) ?_
      refine AllReadyH.cons (op_at rfl) (fun K hK => ?_) ?_
      · rw [if_pos (by rfl)]
        have hcl := X.1.l.cell 32 (rs32 _)
        go_simp
        refine hK.out _ _ (X.2) (fun hHeld' => ?_)
        clear hK K hHeld
        have hHeld := hHeld'
        clear hHeld'
        try simp only [Act.put, List.setIfInBounds_toArray, List.set_cons_zero, List.set_cons_succ]
        clear hcl
        refine wpAnyH_ready (rs := [4]) (by kernel_rfl) (by simp) ?_
        refine AllReadyH.cons (op_at rfl) (fun K hK => ?_) AllReadyH.nil
        rw [if_pos (by rfl)]
        refine wp_bs60 _ rfl r rfl ?_
        refine hK.out _ _ (X.2.alloc _) (fun hHeld' => ?_)
        clear hK K hHeld
        have hHeld := hHeld'
        clear hHeld'
        try simp only [Act.put, List.setIfInBounds_toArray, List.set_cons_zero, List.set_cons_succ]
        have HN : Hid _ := news_new w5 r
        have X6 : SR w Rs f l k (w5.alloc (.cells (ts r) 60)) ∧ At (w5.alloc (.cells (ts r) 60)) 55 wr.heap.size c := ⟨X.1.then ((Below.refl _ _).alloc (Nat.le_refl _) _), X.2.alloc _⟩
        have hsn : w5.heap.size < (w5.alloc (.cells (ts r) 60)).heap.size := by simp
        clear X
        have X := X6
        clear X6
        generalize w5.heap.size = gn at *
        generalize w5.alloc (.cells (ts r) 60) = W at *
        refine wpAnyH_ready (rs := [5]) (by kernel_rfl) (by simp) ?_
        refine AllReadyH.cons (op_at rfl) (fun K hK => ?_) AllReadyH.nil
        rw [if_pos (by rfl)]
        refine wp_append_own_spare W _ _ 49 rfl (w.heap.size + 1 + 1 + 1) 60 i0 5 Try.underlying49 hi hz1 (w.heap.size + 1 + 1 + 1) k Rs.length _ rfl X.1.own ⟨gn, 0, none⟩ 1 1 (tl r) rfl rfl HN.out (tl_one r) (by omega) ?_
        intro w7 own7 grow7
        refine hK.out _ _ (X.2.grown grow7 (by simp; omega)) (fun hHeld' => ?_)
        clear hK K hHeld
        have hHeld := hHeld'
        clear hHeld'
        try simp only [Act.put, List.setIfInBounds_toArray, List.set_cons_zero, List.set_cons_succ]
        have hnx := X.1.next HA.out own7 grow7
        have hc7 := (X.1.l.grown grow7 (by simp)).cell 32 (rs32 _)
        have hf7 := (X.1.l.grown grow7 (by simp)).frozen 32
        have ha7 := (X.2.grown grow7 (by simp; omega)).setCell_other ⟨w.heap.size + 1 + 1, 32, none⟩ (.slice (some ⟨w.heap.size + 1 + 1 + 1, 0, none⟩) (k + 1) Rs.length) (by simp; omega)
        refine wpAnyH_take (i := 6) (v := .pointer (some ⟨w.heap.size + 1 + 1, 32, none⟩)) (op_at rfl) (by kernel_rfl) (by kernel_rfl) (by kernel_rfl) (fun _ _ _ h => h) (Or.inl ⟨by rfl, fun w hSw => by go_simp⟩) hHeld ?_
        simp only [Act.put, List.setIfInBounds_toArray, List.set_cons_zero, List.set_cons_succ]
        refine wpAnyH_ready (rs := [7]) (by kernel_rfl) (by simp) ?_
        refine AllReadyH.cons (op_at rfl) (fun K hK => ?_) AllReadyH.nil
        rw [if_pos (by rfl)]
        go_simp
        refine hK.out _ _ (ha7) (fun hHeld' => ?_)
        clear hK K hHeld
        have hHeld := hHeld'
        clear hHeld'
        try simp only [Act.put, List.setIfInBounds_toArray, List.set_cons_zero, List.set_cons_succ]
        refine wpAnyH_done (by kernel_rfl) ?_ _
        go_wp2
        go_roundw
        case rel => exact ⟨k + 1, by omega, by go_num, hnx⟩
        case measure => simp [intOf] <;> omega
      refine AllReadyH.cons (op_at rfl) (fun K hK => ?_) AllReadyH.nil
      rw [if_pos (by rfl)]
      refine wp_bs60 _ rfl r rfl ?_
      refine hK.out _ _ (X.2.alloc _) (fun hHeld' => ?_)
      clear hK K hHeld
      have hHeld := hHeld'
      clear hHeld'
      try simp only [Act.put, List.setIfInBounds_toArray, List.set_cons_zero, List.set_cons_succ]
      have HN : Hid _ := news_new w5 r
      have X6 : SR w Rs f l k (w5.alloc (.cells (ts r) 60)) ∧ At (w5.alloc (.cells (ts r) 60)) 55 wr.heap.size c := ⟨X.1.then ((Below.refl _ _).alloc (Nat.le_refl _) _), X.2.alloc _⟩
      have hsn : w5.heap.size < (w5.alloc (.cells (ts r) 60)).heap.size := by simp
      clear X
      have X := X6
      clear X6
      generalize w5.heap.size = gn at *
      generalize w5.alloc (.cells (ts r) 60) = W at *
      refine wpAnyH_ready (rs := [1]) (by kernel_rfl) (by simp) ?_
      refine AllReadyH.cons (op_at rfl) (fun K hK => ?_) AllReadyH.nil
      rw [if_pos (by rfl)]
      have hcl := X.1.l.cell 32 (rs32 _)
      go_simp
      refine hK.out _ _ (X.2) (fun hHeld' => ?_)
      clear hK K hHeld
      have hHeld := hHeld'
      clear hHeld'
      try simp only [Act.put, List.setIfInBounds_toArray, List.set_cons_zero, List.set_cons_succ]
      clear hcl
      refine wpAnyH_ready (rs := [5]) (by kernel_rfl) (by simp) ?_
      refine AllReadyH.cons (op_at rfl) (fun K hK => ?_) AllReadyH.nil
      rw [if_pos (by rfl)]
      refine wp_append_own_spare W _ _ 49 rfl (w.heap.size + 1 + 1 + 1) 60 i0 5 Try.underlying49 hi hz1 (w.heap.size + 1 + 1 + 1) k Rs.length _ rfl X.1.own ⟨gn, 0, none⟩ 1 1 (tl r) rfl rfl HN.out (tl_one r) (by omega) ?_
      intro w7 own7 grow7
      refine hK.out _ _ (X.2.grown grow7 (by simp; omega)) (fun hHeld' => ?_)
      clear hK K hHeld
      have hHeld := hHeld'
      clear hHeld'
      try simp only [Act.put, List.setIfInBounds_toArray, List.set_cons_zero, List.set_cons_succ]
      have hnx := X.1.next HA.out own7 grow7
      have hc7 := (X.1.l.grown grow7 (by simp)).cell 32 (rs32 _)
      have hf7 := (X.1.l.grown grow7 (by simp)).frozen 32
      have ha7 := (X.2.grown grow7 (by simp; omega)).setCell_other ⟨w.heap.size + 1 + 1, 32, none⟩ (.slice (some ⟨w.heap.size + 1 + 1 + 1, 0, none⟩) (k + 1) Rs.length) (by simp; omega)
      refine wpAnyH_take (i := 6) (v := .pointer (some ⟨w.heap.size + 1 + 1, 32, none⟩)) (op_at rfl) (by kernel_rfl) (by kernel_rfl) (by kernel_rfl) (fun _ _ _ h => h) (Or.inl ⟨by rfl, fun w hSw => by go_simp⟩) hHeld ?_
      simp only [Act.put, List.setIfInBounds_toArray, List.set_cons_zero, List.set_cons_succ]
      refine wpAnyH_ready (rs := [7]) (by kernel_rfl) (by simp) ?_
      refine AllReadyH.cons (op_at rfl) (fun K hK => ?_) AllReadyH.nil
      rw [if_pos (by rfl)]
      go_simp
      refine hK.out _ _ (ha7) (fun hHeld' => ?_)
      clear hK K hHeld
      have hHeld := hHeld'
      clear hHeld'
      try simp only [Act.put, List.setIfInBounds_toArray, List.set_cons_zero, List.set_cons_succ]
      refine wpAnyH_done (by kernel_rfl) ?_ _
      go_wp2
      go_roundw
      case rel => exact ⟨k + 1, by omega, by go_num, hnx⟩
      case measure => simp [intOf] <;> omega
    · obtain rfl : k = Rs.length := by omega
      have hZ := hS.z
      have hl29 := hS.l.cell 29 (rs29 _)
      have hl30 := hS.l.cell 30 (rs30 _)
      have hf29 := hS.f.cell 29 (rs29 _)
      have fl29 := hS.l.frozen 29
      have fl30 := hS.l.frozen 30
      simp only [] at hl29 hl30
      have hAL : At ((wr.setCell ⟨w.heap.size + 1 + 1, 30, none⟩ (.int .i64 (wrap64 (wrap64 (l.st + l.du) - f.st)))).setCell ⟨w.heap.size + 1 + 1, 29, none⟩ (.int .i64 f.st)) 55 (w.heap.size + 1 + 1) (rs (rep f l (.slice (some ⟨w.heap.size + 1 + 1 + 1, 0, none⟩) Rs.length Rs.length))) := (hS.l.setCell rfl).setCell rfl
      have hZ2 : At ((wr.setCell ⟨w.heap.size + 1 + 1, 30, none⟩ (.int .i64 (wrap64 (wrap64 (l.st + l.du) - f.st)))).setCell ⟨w.heap.size + 1 + 1, 29, none⟩ (.int .i64 f.st)) 55 w.heap.size (rs r0) := (hZ.setCell_other _ _ (by simp <;> omega)).setCell_other _ _ (by simp <;> omega)
      have hO2 := ownsRow_setCell_below (ownsRow_setCell_below hS.own (a := ⟨w.heap.size + 1 + 1, 30, none⟩) (by simp) (.int .i64 (wrap64 (wrap64 (l.st + l.du) - f.st)))) (a := ⟨w.heap.size + 1 + 1, 29, none⟩) (by simp) (.int .i64 f.st)
      have hB2 : Below w.heap.size w ((wr.setCell ⟨w.heap.size + 1 + 1, 30, none⟩ (.int .i64 (wrap64 (wrap64 (l.st + l.du) - f.st)))).setCell ⟨w.heap.size + 1 + 1, 29, none⟩ (.int .i64 f.st)) := (hS.below.setCell (by simp <;> omega) _).setCell (by simp <;> omega) _
      have sr := rs_size (rep f l (.slice (some ⟨w.heap.size + 1 + 1 + 1, 0, none⟩) Rs.length Rs.length))
      have orr : (rs (rep f l (.slice (some ⟨w.heap.size + 1 + 1 + 1, 0, none⟩) Rs.length Rs.length))).all (·.oneCell') = true := rs_one ⟨(hok _ _ hl).ans, rfl⟩
      have hARg := hAL.range
      clear hAL hS hZ
      go_wp2_with (first | (refine wpList_lm (by rfl) 55 _ (by rfl) L55 (w.heap.size + 1 + 1) 0 (by rfl) (rs (rep f l (.slice (some ⟨w.heap.size + 1 + 1 + 1, 0, none⟩) Rs.length Rs.length))) (by exact hARg) (by exact sr) ?_) | (refine wpList_store_row (by rfl) 55 _ _ (by rfl) w.heap.size (rs (rep f l (.slice (some ⟨w.heap.size + 1 + 1 + 1, 0, none⟩) Rs.length Rs.length))) (by rfl) (by rfl) 55 (rs r0) (by exact hZ2) (by rw [sr]; exact Try.size55) (by rw [sr, s0]) orr ?_))
      refine bodyPost_ret (results_rec rfl L55 _ _ w.heap.size 55 _ (by rfl) (hZ2.setRow _) sr) rfl ?_
      exact ⟨⟨w.heap.size + 1 + 1 + 1, rfl, by omega, atts_of_own (own_setRow hO2 (by omega) _)⟩, below_setRow hB2 (Nat.le_refl _) _⟩
end Go.Proofs.Qxb6632277a
