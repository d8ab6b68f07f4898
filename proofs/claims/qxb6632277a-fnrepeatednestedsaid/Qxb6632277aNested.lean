/-
  FnRepeatedNested, WALKED (the slice not empty).
-/
import Derived.Test.Qxb6632277aMore
namespace Go.Proofs.Qxb6632277a
open Go.RowKit
set_option linter.unusedSimpArgs false
set_option linter.unusedVariables false
/-- What law 4 reads once its three variables are laid. -/
structure D4 (w : World) (I O fa la l : Rec) (bi bo bt bf bl g R n : Nat) (nv : Bool) (L : List ByteArray) (W : World) : Prop where
  i : At W 55 bi (rs I)
  o : At W 55 bo (rs O)
  t : At W 60 bt (ts I)
  af : At W 62 bf (aa fa)
  al : At W 62 bl (aa la)
  tv : W.rangeAt bt 0 (vs l).toList
  gv : W.rangeAt g ((n - 1) * 5) (vs l).toList
  r : W.rangeAt R ((n - 1) * 36) (rs l).toList
  sl : SL W l.ans nv L
  sa : SL W la.ans nv L
  below : Below w.heap.size w W
theorem D4.then {w : World} {I O fa la l : Rec} {bi bo bt bf bl g R n : Nat} {nv : Bool} {L : List ByteArray} {W W2 : World} (h : D4 w I O fa la l bi bo bt bf bl g R n nv L W) (hb : Below W.heap.size W W2) : D4 w I O fa la l bi bo bt bf bl g R n nv L W2 :=
  ⟨h.i.kept hb, h.o.kept hb, h.t.kept hb, h.af.kept hb, h.al.kept hb, range_kept h.tv hb, range_kept h.gv hb, range_kept h.r hb, h.sl.kept hb, h.sa.kept hb, bthen h.below hb⟩
theorem D4.drew {w : World} {I O fa la l : Rec} {bi bo bt bf bl g R n : Nat} {nv : Bool} {L : List ByteArray} {W : World} (h : D4 w I O fa la l bi bo bt bf bl g R n nv L W) : D4 w I O fa la l bi bo bt bf bl g R n nv L W.drew :=
  h.then ((Below.refl _ _).drew)
set_option maxRecDepth 100000 in
set_option maxHeartbeats 1000000 in
theorem law4_some (b off cap n : Nat) (A : List Rec) (nl : Nat → Bool) (Ls : Nat → List ByteArray) (hn : A.length = n) (hpos : 0 < n) (hm : n ≤ maxLen) (w : World)
    (hR : ∀ (i : Nat) (a : Rec), A[i]? = some a → w.rangeAt b (off + i * 11) (aa a).toList ∧ SL w a.ans (nl i) (Ls i)) :
    Calls Try.prog 4 #[.slice (some ⟨b, off, none⟩) n cap] w fun e w' => e = .returned (.bool true) ∧ Below w.heap.size w w' := by
  have HR : Hid _ := hR
  have hn0 : (0 : Int) < (n : Int) := by omega
  have HM : Hid (n ≤ maxLen) := hm
  clear hR hm
  go_enter Try.func4, Try.ntmps4
  go_wp2_with fail
  refine (bytes11_n b off cap n A nl Ls hn HM.out w HR.out).mono ?_
  rintro e wq ⟨⟨r, rfl, hr⟩, hq⟩
  subst wq
  cases r
  · go_wp2
    go_ret
    exact ⟨rfl, Below.refl _ _⟩
  obtain ⟨hl20, hfit⟩ := hr rfl
  rw [hn] at hl20 hfit
  have HL : Hid (n ≤ 2 ^ 20) := hl20
  have HF : Hid (Fits Ls n) := hfit
  have hnM : (n : Int) ≤ 1048576 := by omega
  clear hl20 hfit hr
  go_wp2_with fail
  refine (big_n b off cap n A nl Ls hn HM.out w HR.out).mono ?_
  rintro e wb ⟨⟨r, rfl⟩, hb⟩
  have HB : Hid _ := hb
  clear hb
  cases r
  case true =>
    go_wp2
    go_ret
    exact ⟨rfl, HB.out⟩
  have HR2 : Hid (∀ (i : Nat) (a : Rec), A[i]? = some a → wb.rangeAt b (off + i * 11) (aa a).toList ∧ SL wb a.ans (nl i) (Ls i)) := fun i a h => ⟨range_kept (HR.out i a h).1 HB.out, (HR.out i a h).2.kept HB.out⟩
  clear HR
  go_wp2_with fail
  refine (build_n b off cap n A nl Ls hn HL.out hpos HF.out wb HR2.out).mono ?_
  rintro e w1 ⟨⟨Rs, rfl, hRs, hSB⟩, hb1⟩
  obtain ⟨fa, hfa⟩ : ∃ a, A[0]? = some a := ⟨_, List.getElem?_eq_getElem (by omega)⟩
  obtain ⟨la, hla⟩ : ∃ a, A[n - 1]? = some a := ⟨_, List.getElem?_eq_getElem (by omega)⟩
  obtain ⟨f, hf⟩ : ∃ a, Rs[0]? = some a := ⟨_, List.getElem?_eq_getElem (by omega)⟩
  obtain ⟨l, hl⟩ : ∃ a, Rs[n - 1]? = some a := ⟨_, List.getElem?_eq_getElem (by omega)⟩
  have hok : ∀ (i : Nat) (r : Rec), Rs[i]? = some r → Ok r := fun i r hi => by
    obtain ⟨a, ha⟩ : ∃ a, A[i]? = some a := ⟨_, List.getElem?_eq_getElem (by have := (List.getElem?_eq_some_iff.1 hi).1; omega)⟩
    have := hSB.like i r a hi ha
    exact ⟨this.sl.sl.one, by rw [this.eq]; rfl⟩
  have hRec : Recs w1 wb.heap.size 0 Rs := fun i r hi => by
    rw [Nat.zero_add]
    exact hSB.done i r hi
  have HL1 : Hid (Like w1 wb.heap.size l la (nl (n - 1)) (Ls (n - 1))) := hSB.like _ _ _ hl hla
  have HF1 : Hid (Like w1 wb.heap.size f fa (nl 0) (Ls 0)) := hSB.like _ _ _ hf hfa
  have HA1 : Hid ((w1.rangeAt b (off + 0 * 11) (aa fa).toList ∧ SL w1 fa.ans (nl 0) (Ls 0)) ∧ (w1.rangeAt b (off + (n - 1) * 11) (aa la).toList ∧ SL w1 la.ans (nl (n - 1)) (Ls (n - 1)))) :=
    ⟨⟨range_kept (HR2.out _ _ hfa).1 hb1, (HR2.out _ _ hfa).2.kept hb1⟩, ⟨range_kept (HR2.out _ _ hla).1 hb1, (HR2.out _ _ hla).2.kept hb1⟩⟩
  have HLn : Hid ((Ls (n - 1)).length ≤ 2 ^ 20) := HF.out _ (by omega)
  have HC8 : Hid _ := repeated_n wb.heap.size 0 n n Rs f l hRs hf hl HL.out hok w1 hRec
  have HRl : Hid (w1.rangeAt wb.heap.size ((n - 1) * 36) (rs l).toList) := hSB.done _ _ hl
  have HBl : Hid (Below w.heap.size w w1) := bthen HB.out hb1
  have HGl : Hid (Rs[n - 1]? = some l) := hl
  clear hSB hb1 hok hRec hf hl hfa hla HR2 HF HM HB
  generalize wb.heap.size = R at *
  generalize nl (n - 1) = nv at *
  generalize Ls (n - 1) = L at *
  generalize nl 0 = nv0 at *
  generalize Ls 0 = L0 at *
  clear wb nl Ls
  go_wp2_with fail
  refine Calls.mono HC8.out ?_
  rintro e w2 ⟨⟨g, rfl, hg, hAtt⟩, hb2⟩
  have hLike := HL1.out
  have hok : Ok (rep f l (.slice (some ⟨g, 0, none⟩) n n)) := ⟨hLike.sl.sl.one, rfl⟩
  have hsA : ∃ a l1 c, (rep f l (.slice (some ⟨g, 0, none⟩) n n)).ans = .slice a l1 c := hLike.sl.sl.slice
  have hsT : ∃ a l1 c, (rep f l (.slice (some ⟨g, 0, none⟩) n n)).att = .slice a l1 c := ⟨_, _, _, rfl⟩
  have HrI : Hid (rep f l (.slice (some ⟨g, 0, none⟩) n n) = rep f l (.slice (some ⟨g, 0, none⟩) n n)) := rfl
  generalize hI : rep f l (.slice (some ⟨g, 0, none⟩) n n) = I at hok hsA hsT ⊢
  have HI : Hid _ := hI
  have HsA : Hid _ := hsA
  have HsT : Hid _ := hsT
  have Hg : Hid (Atts w2 g Rs) := hAtt
  have HB2 : Hid (Below w1.heap.size w1 w2) := hb2
  have oI := rs_one hok
  have hB3 := (Below.refl w2.heap.size w2).alloc (Nat.le_refl _) (.cells (rs I) 55)
  have HB4 : Hid (Below w2.heap.size w2 ((w2.alloc (.cells (rs I) 55)).alloc (.cells (rs I) 55))) := hB3.alloc (by simp) _
  have Hi3 : Hid ((w2.alloc (.cells (rs I) 55)).rangeAt w2.heap.size 0 (rs I).toList) := (At.new w2 55 (rs I)).range
  have Hi4 : Hid (At ((w2.alloc (.cells (rs I) 55)).alloc (.cells (rs I) 55)) 55 w2.heap.size (rs I)) := (At.new w2 55 (rs I)).alloc _
  have Hk4 : At ((w2.alloc (.cells (rs I) 55)).alloc (.cells (rs I) 55)) 55 (w2.heap.size + 1) (rs I) := At.new' _ 55 _ (by simp)
  have HC8b : Hid _ := repeated_n (w2.heap.size + 1) 0 1 1 [I] I I rfl rfl rfl (by decide) (fun i r hi => by
    cases i with
    | zero => simp at hi; rw [← hi]; exact hok
    | succ i => simp at hi) ((w2.alloc (.cells (rs I) 55)).alloc (.cells (rs I) 55)) (fun i r hi => by
    cases i with
    | zero => simp at hi; rw [← hi]; exact Hk4.range
    | succ i => simp at hi)
  clear hI hLike hok hsA hsT hAtt hb2 hB3 Hk4 hg HrI HC8
  go_wp2_with (first | (with_reducible refine al' 55 (rs r0) z55 ?_) | ((with_reducible refine lm' 55 _ L55 w2.heap.size 0 (rs I) ?_ Hi3.out (rs_size I) ?_); rfl) | ((with_reducible refine sn' 55 _ _ L55 (rs r0) (rs I) ?_ ?_ (rs_size r0) (rs_size I) oI ?_); rfl; rfl) | ((with_reducible refine bs' _ I HsA.out HsT.out ?_ ?_); rfl))
  refine Calls.mono HC8b.out ?_
  rintro e w5 ⟨⟨g2, rfl, hg2, hAtt2⟩, hb5⟩
  rw [show rep I I (.slice (some ⟨g2, 0, none⟩) 1 1) = { I with att := .slice (some ⟨g2, 0, none⟩) 1 1 } from by rw [← HI.out]; exact rep_rep _ _ _ _]
  have HO : Hid ((rs { I with att := .slice (some ⟨g2, 0, none⟩) 1 1 }).all (·.oneCell') = true) := rs_one ⟨by obtain ⟨a, l1, c, e⟩ := HsA.out; rw [e]; rfl, rfl⟩
  have q32 : (rs { I with att := .slice (some ⟨g2, 0, none⟩) 1 1 })[32]? = some (.slice (some ⟨g2, 0, none⟩) 1 1) := rfl
  have q29 : (rs { I with att := .slice (some ⟨g2, 0, none⟩) 1 1 })[29]? = some (.int .i64 I.st) := rfl
  have q30 : (rs { I with att := .slice (some ⟨g2, 0, none⟩) 1 1 })[30]? = some (.int .i64 I.du) := rfl
  have p32 : (rs I)[32]? = some (.slice (some ⟨g, 0, none⟩) n n) := by rw [← HI.out]; rfl
  have HsO : Hid (Same { I with att := .slice (some ⟨g2, 0, none⟩) 1 1 } la ∧ Same I la ∧ I.ans = l.ans ∧ I.st = fa.st ∧ wrap64 (fa.st + I.du) = wrap64 (la.st + la.du) ∧ ts I = (((vs l).toList ++ [Value.int .i64 I.st, Value.int .i64 I.du]).toArray)) := by
    have h1 := HL1.out.eq
    have h2 := HF1.out.eq
    rw [← HI.out]
    refine ⟨?_, ?_, rfl, ?_, ?_, rfl⟩
    · rw [h1]; exact ⟨rfl, rfl, rfl, rfl, rfl, rfl, rfl, rfl⟩
    · rw [h1]; exact ⟨rfl, rfl, rfl, rfl, rfl, rfl, rfl, rfl⟩
    · show f.st = fa.st
      rw [h2]
    · show wrap64 (fa.st + wrap64 (wrap64 (l.st + l.du) - f.st)) = _
      rw [show f.st = fa.st by rw [h2], wrap_a]
      rw [h1]
  have HeO : Hid (({ I with att := .slice (some ⟨g2, 0, none⟩) 1 1 } : Rec).ans = l.ans) := HsO.out.2.2.1
  generalize hO : ({ I with att := .slice (some ⟨g2, 0, none⟩) 1 1 } : Rec) = O at *
  clear hO
  have hb25 : Below w2.heap.size w2 w5 := bthen HB4.out hb5
  have hb15 : Below w1.heap.size w1 w5 := bthen HB2.out hb25
  have a5i : At w5 55 w2.heap.size (rs I) := Hi4.out.kept hb5
  have t6 : w5.rangeAt g2 0 (ts I).toList := by have := hAtt2 0 I rfl; rwa [Nat.zero_mul] at this
  have R6 : Hid ((w5.alloc (.cells (rs O) 55)).rangeAt g2 0 (ts I).toList) := range_kept t6 (alb _ _)
  have b57 : Below w5.heap.size w5 ((w5.alloc (.cells (rs O) 55)).alloc (.cells (ts I) 60)) := bthen (alb _ _) (alb _ _)
  have b58 : Below w5.heap.size w5 (((w5.alloc (.cells (rs O) 55)).alloc (.cells (ts I) 60)).alloc (.cells (aa fa) 62)) := bthen b57 (alb _ _)
  have b59 : Below w5.heap.size w5 ((((w5.alloc (.cells (rs O) 55)).alloc (.cells (ts I) 60)).alloc (.cells (aa fa) 62)).alloc (.cells (aa la) 62)) := bthen b58 (alb _ _)
  have R7 : Hid (((w5.alloc (.cells (rs O) 55)).alloc (.cells (ts I) 60)).rangeAt b off (aa fa).toList) := by
    have := range_kept (range_kept HA1.out.1.1 hb15) b57
    rwa [Nat.zero_mul, Nat.add_zero] at this
  have R8 : Hid ((((w5.alloc (.cells (rs O) 55)).alloc (.cells (ts I) 60)).alloc (.cells (aa fa) 62)).rangeAt b (off + (n - 1) * 11) (aa la).toList) := range_kept (range_kept HA1.out.2.1 hb15) b58
  have D9 : Hid (D4 w I O fa la l w2.heap.size w5.heap.size (w5.alloc (.cells (rs O) 55)).heap.size ((w5.alloc (.cells (rs O) 55)).alloc (.cells (ts I) 60)).heap.size (((w5.alloc (.cells (rs O) 55)).alloc (.cells (ts I) 60)).alloc (.cells (aa fa) 62)).heap.size g R n nv L
      ((((w5.alloc (.cells (rs O) 55)).alloc (.cells (ts I) 60)).alloc (.cells (aa fa) 62)).alloc (.cells (aa la) 62))) := by
    have tt := (At.new (w5.alloc (.cells (rs O) 55)) 60 (ts I)).alloc (.cells (aa fa) 62) |>.alloc (.cells (aa la) 62)
    refine ⟨a5i.kept b59, (((At.new w5 55 (rs O)).alloc _).alloc _).alloc _, tt, (At.new _ 62 (aa fa)).alloc _, At.new _ 62 _, ?_, ?_, range_kept (range_kept HRl.out hb15) b59, (HL1.out.sl.sl.kept hb15).kept b59, (HA1.out.2.2.kept hb15).kept b59, bthen (bthen HBl.out hb15) b59⟩
    · have := tt.range
      have e : (ts I).toList = (vs l).toList ++ [.int .i64 I.st, .int .i64 I.du] := by rw [HsO.out.2.2.2.2.2]
      rw [e] at this
      exact range_pre this
    · have h5 : w2.rangeAt g ((n - 1) * 5) (tl l) := Hg.out _ _ HGl.out
      exact range_pre (xs := (vs l).toList) (ys := [.int .i64 l.st, .int .i64 l.du]) (range_kept (range_kept h5 hb25) b59)
  have c6i : (w5.alloc (.cells (rs O) 55)).cell? ⟨w2.heap.size, 32, none⟩ = some (.slice (some ⟨g, 0, none⟩) n n) := (a5i.alloc _).cell 32 p32
  have c6o : (w5.alloc (.cells (rs O) 55)).cell? ⟨w5.heap.size, 32, none⟩ = some (.slice (some ⟨g2, 0, none⟩) 1 1) := (At.new w5 55 (rs O)).cell 32 q32
  have c1 := D9.out.t.cell 3 (ts0 I)
  have c2 := D9.out.t.cell 4 (ts4 I)
  rw [HsO.out.2.2.2.1] at c1
  have c3 := D9.out.af.cell 2 (aa2 fa)
  have c4 := D9.out.al.cell 2 (aa2 la)
  have c5 := D9.out.al.cell 3 (aa3 la)
  have hE := HsO.out.2.2.2.2.1
  have HOf : Hid ((aa fa).all (·.oneCell') = true) := by
    have := HA1.out.1.2.one
    show _ = _
    simp [aa, al, Value.oneCell']
    exact this
  have HOl : Hid ((aa la).all (·.oneCell') = true) := by
    have := HA1.out.2.2.one
    show _ = _
    simp [aa, al, Value.oneCell']
    exact this
  have HOt : Hid ((ts I).all (·.oneCell') = true) := ts_one I
  clear hb25 hb15 a5i t6 b57 b58 b59 hg2 hAtt2 hb5 HC8b Hi3 Hi4 HB4 HA1
  go_wp2_with (first | (with_reducible refine al' 55 (rs r0) z55 ?_) | (with_reducible refine al' 60 t0 z60 ?_) | (with_reducible refine al' 62 (aa r0) z62 ?_) | ((with_reducible refine sn' 55 _ _ L55 (rs r0) (rs O) ?_ ?_ (rs_size r0) (rs_size O) HO.out ?_); rfl; rfl; generalize w5.alloc (.cells (rs O) 55) = w6 at *) | ((with_reducible refine lm' 60 _ L60 g2 0 (ts I) ?_ R6.out (ts_size I) ?_); rfl) | ((with_reducible refine sn' 60 _ _ L60 t0 (ts I) ?_ ?_ rfl (ts_size I) HOt.out ?_); rfl; rfl; generalize World.alloc _ (.cells (ts I) 60) = w7 at *) | ((with_reducible refine lm' 62 _ L62 b off (aa fa) ?_ R7.out (aa_size fa) ?_); rfl) | ((with_reducible refine sn' 62 _ _ L62 (aa r0) (aa fa) ?_ ?_ (aa_size r0) (aa_size fa) HOf.out ?_); rfl; rfl; generalize World.alloc _ (.cells (aa fa) 62) = w8 at *) | ((with_reducible refine lm' 62 _ L62 b (off + (n - 1) * 11) (aa la) ?_ R8.out (aa_size la) ?_); rfl) | ((with_reducible refine sn' 62 _ _ L62 (aa r0) (aa la) ?_ ?_ (aa_size r0) (aa_size la) HOl.out ?_); rfl; rfl; generalize World.alloc _ (.cells (aa la) 62) = w9 at *))
  have hw1 : IntKind.i64.wrap ((n : Int) - 1) = n - 1 := by simp [IntKind.wrap, IntKind.bits, IntKind.signed]; omega
  refine wp_region_held_drew (S := D4 w I O fa la l w2.heap.size w5.heap.size w6.heap.size w7.heap.size w8.heap.size g R n nv L) (by kernel_rfl) D9.out.drew (fun hHeld => ?_)
  refine wpAnyH_take (i := 0) (v := .pointer (some ⟨w6.heap.size, 0, none⟩)) (op_at rfl) (by kernel_rfl) (by kernel_rfl) (by kernel_rfl) (fun _ _ _ h => h) (Or.inl ⟨by rfl, fun w hSw => by go_simp⟩) hHeld ?_
  simp only [Act.put, List.setIfInBounds_toArray, List.set_cons_zero, List.set_cons_succ]
  refine wpAnyH_take (i := 1) (v := .agg (vs l)) (op_at rfl) (by kernel_rfl) (by kernel_rfl) (by kernel_rfl) (fun _ _ _ h => h) (yld (by rfl) 58 _ rfl L58 w6.heap.size (0) rfl (vs l) rfl (fun _ h => h.tv)) hHeld ?_
  simp only [Act.put, List.setIfInBounds_toArray, List.set_cons_zero, List.set_cons_succ]
  refine wpAnyH_take (i := 2) (v := .pointer (some ⟨w2.heap.size, 32, none⟩)) (op_at rfl) (by kernel_rfl) (by kernel_rfl) (by kernel_rfl) (fun _ _ _ h => h) (Or.inl ⟨by rfl, fun w hSw => by go_simp⟩) hHeld ?_
  simp only [Act.put, List.setIfInBounds_toArray, List.set_cons_zero, List.set_cons_succ]
  refine wpAnyH_take (i := 3) (v := .slice (some ⟨g, 0, none⟩) n n) (op_at rfl) (by kernel_rfl) (by kernel_rfl) (by kernel_rfl) (fun _ _ _ h => h) (Or.inl ⟨by rfl, fun w hSw => by have := hSw.i.cell 32 p32; go_simp⟩) hHeld ?_
  simp only [Act.put, List.setIfInBounds_toArray, List.set_cons_zero, List.set_cons_succ]
  refine wpAnyH_take (i := 4) (v := .int .i64 n) (op_at rfl) (by kernel_rfl) (by kernel_rfl) (by kernel_rfl) (fun _ _ _ h => h) (Or.inl ⟨by rfl, fun w hSw => by go_simp⟩) hHeld ?_
  simp only [Act.put, List.setIfInBounds_toArray, List.set_cons_zero, List.set_cons_succ]
  refine wpAnyH_take (i := 5) (v := .int .i64 (n - 1)) (op_at rfl) (by kernel_rfl) (by kernel_rfl) (by kernel_rfl) (fun _ _ _ h => h) (Or.inl ⟨by rfl, fun w hSw => by go_simp⟩) hHeld ?_
  simp only [Act.put, List.setIfInBounds_toArray, List.set_cons_zero, List.set_cons_succ]
  refine wpAnyH_take (i := 6) (v := .pointer (some ⟨g, (n - 1) * 5, none⟩)) (op_at rfl) (by kernel_rfl) (by kernel_rfl) (by kernel_rfl) (fun _ _ _ h => h) (Or.inl ⟨by rfl, fun w hSw => by go_simp; intro h; exfalso; have := h (by omega); omega⟩) hHeld ?_
  simp only [Act.put, List.setIfInBounds_toArray, List.set_cons_zero, List.set_cons_succ]
  refine wpAnyH_take (i := 7) (v := .pointer (some ⟨g, (n - 1) * 5, none⟩)) (op_at rfl) (by kernel_rfl) (by kernel_rfl) (by kernel_rfl) (fun _ _ _ h => h) (Or.inl ⟨by rfl, fun w hSw => by go_simp⟩) hHeld ?_
  simp only [Act.put, List.setIfInBounds_toArray, List.set_cons_zero, List.set_cons_succ]
  refine wpAnyH_take (i := 8) (v := .agg (vs l)) (op_at rfl) (by kernel_rfl) (by kernel_rfl) (by kernel_rfl) (fun _ _ _ h => h) (yld (by rfl) 58 _ rfl L58 g ((n - 1) * 5) rfl (vs l) rfl (fun _ h => h.gv)) hHeld ?_
  simp only [Act.put, List.setIfInBounds_toArray, List.set_cons_zero, List.set_cons_succ]
  refine wpAnyH_take (i := 9) (v := .bool false) (op_at rfl) (by kernel_rfl) (by kernel_rfl) (by kernel_rfl) (fun _ _ _ h => h) (Or.inl ⟨by rfl, fun w hSw => run_neq58 rfl rfl⟩) hHeld ?_
  simp only [Act.put, List.setIfInBounds_toArray, List.set_cons_zero, List.set_cons_succ]
  refine wpAnyH_take (i := 10) (v := .bool false) (op_at rfl) (by kernel_rfl) (by kernel_rfl) (by kernel_rfl) (fun _ _ _ h => h) (Or.inl ⟨by rfl, fun w hSw => by go_simp⟩) hHeld ?_
  simp only [Act.put, List.setIfInBounds_toArray, List.set_cons_zero, List.set_cons_succ]
  refine wpAnyH_take (i := 11) (v := .pointer (some ⟨w6.heap.size, 0, none⟩)) (op_at rfl) (by kernel_rfl) (by kernel_rfl) (by kernel_rfl) (fun _ _ _ h => h) (Or.inl ⟨by rfl, fun w hSw => by go_simp⟩) hHeld ?_
  simp only [Act.put, List.setIfInBounds_toArray, List.set_cons_zero, List.set_cons_succ]
  refine wpAnyH_take (i := 12) (v := .agg (vs l)) (op_at rfl) (by kernel_rfl) (by kernel_rfl) (by kernel_rfl) (fun _ _ _ h => h) (yld (by rfl) 58 _ rfl L58 w6.heap.size (0) rfl (vs l) rfl (fun _ h => h.tv)) hHeld ?_
  simp only [Act.put, List.setIfInBounds_toArray, List.set_cons_zero, List.set_cons_succ]
  refine wpAnyH_take (i := 13) (v := .slice (some ⟨R, 0, none⟩) n n) (op_at rfl) (by kernel_rfl) (by kernel_rfl) (by kernel_rfl) (fun _ _ _ h => h) (Or.inl ⟨by rfl, fun w hSw => by go_simp⟩) hHeld ?_
  simp only [Act.put, List.setIfInBounds_toArray, List.set_cons_zero, List.set_cons_succ]
  refine wpAnyH_take (i := 14) (v := .int .i64 n) (op_at rfl) (by kernel_rfl) (by kernel_rfl) (by kernel_rfl) (fun _ _ _ h => h) (Or.inl ⟨by rfl, fun w hSw => by go_simp⟩) hHeld ?_
  simp only [Act.put, List.setIfInBounds_toArray, List.set_cons_zero, List.set_cons_succ]
  refine wpAnyH_take (i := 15) (v := .int .i64 (n - 1)) (op_at rfl) (by kernel_rfl) (by kernel_rfl) (by kernel_rfl) (fun _ _ _ h => h) (Or.inl ⟨by rfl, fun w hSw => by go_simp⟩) hHeld ?_
  simp only [Act.put, List.setIfInBounds_toArray, List.set_cons_zero, List.set_cons_succ]
  refine wpAnyH_take (i := 16) (v := .pointer (some ⟨R, (n - 1) * 36, none⟩)) (op_at rfl) (by kernel_rfl) (by kernel_rfl) (by kernel_rfl) (fun _ _ _ h => h) (Or.inl ⟨by rfl, fun w hSw => by go_simp; intro h; exfalso; have := h (by omega); omega⟩) hHeld ?_
  simp only [Act.put, List.setIfInBounds_toArray, List.set_cons_zero, List.set_cons_succ]
  refine wpAnyH_take (i := 17) (v := .agg (rs l)) (op_at rfl) (by kernel_rfl) (by kernel_rfl) (by kernel_rfl) (fun _ _ _ h => h) (yld (by rfl) 55 _ rfl L55 R ((n - 1) * 36) rfl (rs l) (rs_size l) (fun _ h => h.r)) hHeld ?_
  simp only [Act.put, List.setIfInBounds_toArray, List.set_cons_zero, List.set_cons_succ]
  refine wpAnyH_ready (rs := [18]) (by kernel_rfl) (by simp) ?_
  refine AllReadyH.cons (op_at rfl) (fun K hK => ?_) AllReadyH.nil
  go_simp
  refine (verdict_any l _).mono ?_
  rintro e w10 ⟨rfl, hb10⟩
  refine hK.out _ _ (hHeld.then hb10) (fun hHeld' => ?_)
  clear hK K hHeld
  have hHeld := hHeld'
  clear hHeld'
  try simp only [Act.put, List.setIfInBounds_toArray, List.set_cons_zero, List.set_cons_succ]
  simp only [← show vs l = #[.bool l.ok, .string l.fop, .string l.fail] from rfl]
  refine wpAnyH_take (i := 19) (v := .bool false) (op_at rfl) (by kernel_rfl) (by kernel_rfl) (by kernel_rfl) (fun _ _ _ h => h) (Or.inl ⟨by rfl, fun w hSw => run_neq58 rfl rfl⟩) hHeld ?_
  simp only [Act.put, List.setIfInBounds_toArray, List.set_cons_zero, List.set_cons_succ]
  refine wpAnyH_take (i := 20) (v := .bool false) (op_at rfl) (by kernel_rfl) (by kernel_rfl) (by kernel_rfl) (fun _ _ _ h => h) (Or.inl ⟨by rfl, fun w hSw => by go_simp⟩) hHeld ?_
  simp only [Act.put, List.setIfInBounds_toArray, List.set_cons_zero, List.set_cons_succ]
  refine wpAnyH_done (by kernel_rfl) ?_ _
  have d1 := hHeld.o.cell 29 q29
  have d2 := hHeld.o.cell 30 q30
  have d3 := hHeld.i.cell 29 (rs29 I)
  have d4 := hHeld.i.cell 30 (rs30 I)
  have HD : Hid _ := hHeld
  have HCa : Hid _ := carries_any O la HsO.out.1 nv L HLn.out w10 (by rw [HeO.out]; exact HD.out.sl) HD.out.sa
  clear hHeld c1 c2 c3 c4 c5 c6i c6o R6 R7 R8 D9
  go_wp2_with (first | ((with_reducible refine lm' 55 _ L55 w5.heap.size 0 (rs O) ?_ HD.out.o.range (rs_size O) ?_); rfl) | ((with_reducible refine lm' 62 _ L62 w8.heap.size 0 (aa la) ?_ HD.out.al.range (aa_size la) ?_); rfl))
  refine Calls.mono HCa.out ?_
  rintro e w11 ⟨rfl, hb11⟩
  have HD2 : Hid _ := HD.out.then hb11
  have HCb : Hid _ := carries_any I la HsO.out.2.1 nv L HLn.out w11 (by rw [HsO.out.2.2.1]; exact HD2.out.sl) HD2.out.sa
  clear hb11 HCa HD d1 d2 d3 d4
  go_wp2_with (first | ((with_reducible refine lmg' 55 _ L55 w2.heap.size 0 (rs I) ?_ ?_ HD2.out.i.range (rs_size I) ?_); rfl; rfl) | ((with_reducible refine lmg' 62 _ L62 w8.heap.size 0 (aa la) ?_ ?_ HD2.out.al.range (aa_size la) ?_); rfl; rfl) | (go_at_call 10; refine Calls.mono HCb.out ?_; rintro e w12 ⟨rfl, hb12⟩))
  go_ret
  exact ⟨rfl, bthen HD2.out.below hb12⟩
end Go.Proofs.Qxb6632277a
