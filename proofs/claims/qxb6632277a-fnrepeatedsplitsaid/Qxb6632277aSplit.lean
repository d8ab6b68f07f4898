/-
  FnRepeatedSplit, WALKED (the slice not empty).
-/
import Derived.Test.Qxb6632277aMore
namespace Go.Proofs.Qxb6632277a
open Go.RowKit
set_option linter.unusedSimpArgs false
set_option linter.unusedVariables false
/-- What both sides say: the attempts handed in, the records made of them. -/
structure B3 (w : World) (A Rs : List Rec) (nl : Nat → Bool) (Ls : Nat → List ByteArray) (b off R : Nat) (W : World) : Prop where
  args : ∀ (i : Nat) (a : Rec), A[i]? = some a → W.rangeAt b (off + i * 11) (aa a).toList ∧ SL W a.ans (nl i) (Ls i)
  recs : ∀ (i : Nat) (r : Rec), Rs[i]? = some r → W.rangeAt R (i * 36) (rs r).toList
  like : ∀ (i : Nat) (r a : Rec), Rs[i]? = some r → A[i]? = some a → r = { a with ans := r.ans, att := .slice none 0 0 } ∧ SL W r.ans (nl i) (Ls i)
  below : Below w.heap.size w W
theorem B3.then {w : World} {A Rs : List Rec} {nl : Nat → Bool} {Ls : Nat → List ByteArray} {b off R : Nat} {W W2 : World} (h : B3 w A Rs nl Ls b off R W) (hb : Below W.heap.size W W2) : B3 w A Rs nl Ls b off R W2 :=
  ⟨fun i a hi => ⟨range_kept (h.args i a hi).1 hb, (h.args i a hi).2.kept hb⟩, fun i r hi => range_kept (h.recs i r hi) hb, fun i r a hi ha => ⟨(h.like i r a hi ha).1, (h.like i r a hi ha).2.kept hb⟩, bthen h.below hb⟩
theorem B3.ok {w : World} {A Rs : List Rec} {nl : Nat → Bool} {Ls : Nat → List ByteArray} {b off R : Nat} {W : World} (h : B3 w A Rs nl Ls b off R W) (hl : Rs.length = A.length) (i : Nat) (r : Rec) (hi : Rs[i]? = some r) : Ok r := by
  obtain ⟨a, ha⟩ : ∃ a, A[i]? = some a := ⟨_, List.getElem?_eq_getElem (by have := (List.getElem?_eq_some_iff.1 hi).1; omega)⟩
  have := h.like i r a hi ha
  exact ⟨this.2.one, by rw [this.1]; rfl⟩
theorem take_get {Rs : List Rec} {k i : Nat} {r : Rec} (h : (Rs.take k)[i]? = some r) : Rs[i]? = some r := by
  rw [List.getElem?_take] at h
  split at h
  · exact h
  · cases h
theorem drop_get {Rs : List Rec} {k i : Nat} {r : Rec} (h : (Rs.drop k)[i]? = some r) : Rs[k + i]? = some r := by
  rwa [List.getElem?_drop] at h
/-- Repeated over the whole run, over its first k records, over the rest. -/
theorem B3.whole {w : World} {A Rs : List Rec} {nl : Nat → Bool} {Ls : Nat → List ByteArray} {b off R : Nat} {W : World} (h : B3 w A Rs nl Ls b off R W) (hl : Rs.length = A.length) (n : Nat) (hn : Rs.length = n) (hM : n ≤ 2 ^ 20) (f l : Rec) (hf : Rs[0]? = some f) (hlst : Rs[n - 1]? = some l) :
    Calls Try.prog 8 #[.slice (some ⟨R, 0, none⟩) n n] W fun e w' => (∃ g, e = .returned (.agg (rs (rep f l (.slice (some ⟨g, 0, none⟩) n n)))) ∧ W.heap.size ≤ g ∧ Atts w' g Rs) ∧ Below W.heap.size W w' :=
  repeated_n R 0 n n Rs f l hn hf hlst hM (fun i r hi => h.ok hl i r hi) W (fun i r hi => by rw [Nat.zero_add]; exact h.recs i r hi)
theorem B3.left {w : World} {A Rs : List Rec} {nl : Nat → Bool} {Ls : Nat → List ByteArray} {b off R : Nat} {W : World} (h : B3 w A Rs nl Ls b off R W) (hl : Rs.length = A.length) (n k : Nat) (hn : Rs.length = n) (hM : n ≤ 2 ^ 20) (hk1 : 1 ≤ k) (hk : k < n) (f m : Rec) (hf : Rs[0]? = some f) (hm : Rs[k - 1]? = some m) :
    Calls Try.prog 8 #[.slice (some ⟨R, 0, none⟩) k n] W fun e w' => (∃ g, e = .returned (.agg (rs (rep f m (.slice (some ⟨g, 0, none⟩) k k)))) ∧ W.heap.size ≤ g ∧ Atts w' g (Rs.take k)) ∧ Below W.heap.size W w' :=
  repeated_n R 0 n k (Rs.take k) f m (by simp; omega) (by rw [List.getElem?_take_of_lt (by omega)]; exact hf) (by rw [List.getElem?_take_of_lt (by omega)]; exact hm) (by omega) (fun i r hi => h.ok hl i r (take_get hi)) W (fun i r hi => by rw [Nat.zero_add]; exact h.recs i r (take_get hi))
theorem B3.right {w : World} {A Rs : List Rec} {nl : Nat → Bool} {Ls : Nat → List ByteArray} {b off R : Nat} {W : World} (h : B3 w A Rs nl Ls b off R W) (hl : Rs.length = A.length) (n k : Nat) (hn : Rs.length = n) (hM : n ≤ 2 ^ 20) (hk1 : 1 ≤ k) (hk : k < n) (f l : Rec) (hf : Rs[k]? = some f) (hm : Rs[n - 1]? = some l) :
    Calls Try.prog 8 #[.slice (some ⟨R, k * 36, none⟩) (n - k) (n - k)] W fun e w' => (∃ g, e = .returned (.agg (rs (rep f l (.slice (some ⟨g, 0, none⟩) (n - k) (n - k))))) ∧ W.heap.size ≤ g ∧ Atts w' g (Rs.drop k)) ∧ Below W.heap.size W w' :=
  repeated_n R (k * 36) (n - k) (n - k) (Rs.drop k) f l (by simp; omega) (by rw [List.getElem?_drop]; exact hf) (by rw [List.getElem?_drop, show k + (n - k - 1) = n - 1 by omega]; exact hm) (by omega) (fun i r hi => h.ok hl _ r (drop_get hi)) W (fun i r hi => by rw [← Nat.add_mul]; exact h.recs _ r (drop_get hi))
/-- What law 3 reads once its three records are laid. -/
structure D3 (w : World) (A Rs : List Rec) (nl : Nat → Bool) (Ls : Nat → List ByteArray) (b off R : Nat) (X Y Z : Rec) (bx bY bz g g1 g2 k : Nat) (W : World) : Prop where
  base : B3 w A Rs nl Ls b off R W
  x : At W 55 bx (rs X)
  y : At W 55 bY (rs Y)
  z : At W 55 bz (rs Z)
  g : Atts W g Rs
  g1 : Atts W g1 (Rs.take k)
  g2 : Atts W g2 (Rs.drop k)
theorem D3.then {w : World} {A Rs : List Rec} {nl : Nat → Bool} {Ls : Nat → List ByteArray} {b off R : Nat} {X Y Z : Rec} {bx bY bz g g1 g2 k : Nat} {W W2 : World} (h : D3 w A Rs nl Ls b off R X Y Z bx bY bz g g1 g2 k W) (hb : Below W.heap.size W W2) :
    D3 w A Rs nl Ls b off R X Y Z bx bY bz g g1 g2 k W2 :=
  ⟨h.base.then hb, h.x.kept hb, h.y.kept hb, h.z.kept hb, h.g.kept hb, h.g1.kept hb, h.g2.kept hb⟩
structure E3 (w : World) (A Rs : List Rec) (nl : Nat → Bool) (Ls : Nat → List ByteArray) (b off R : Nat) (X Y Z : Rec) (bx bY bz g g1 g2 k bt : Nat) (r : Rec) (W : World) : Prop where
  d : D3 w A Rs nl Ls b off R X Y Z bx bY bz g g1 g2 k W
  t : At W 60 bt (ts r)
theorem E3.then {w : World} {A Rs : List Rec} {nl : Nat → Bool} {Ls : Nat → List ByteArray} {b off R : Nat} {X Y Z : Rec} {bx bY bz g g1 g2 k bt : Nat} {r : Rec} {W W2 : World} (h : E3 w A Rs nl Ls b off R X Y Z bx bY bz g g1 g2 k bt r W) (hb : Below W.heap.size W W2) :
    E3 w A Rs nl Ls b off R X Y Z bx bY bz g g1 g2 k bt r W2 := ⟨h.d.then hb, h.t.kept hb⟩
theorem E3.drew {w : World} {A Rs : List Rec} {nl : Nat → Bool} {Ls : Nat → List ByteArray} {b off R : Nat} {X Y Z : Rec} {bx bY bz g g1 g2 k bt : Nat} {r : Rec} {W : World} (h : E3 w A Rs nl Ls b off R X Y Z bx bY bz g g1 g2 k bt r W) : E3 w A Rs nl Ls b off R X Y Z bx bY bz g g1 g2 k bt r W.drew := h.then (Below.refl _ _).drew
structure F3 (w : World) (A Rs : List Rec) (nl : Nat → Bool) (Ls : Nat → List ByteArray) (b off R : Nat) (X Y Z : Rec) (bx bY bz g g1 g2 k bf bl : Nat) (fa la : Rec) (W : World) : Prop where
  d : D3 w A Rs nl Ls b off R X Y Z bx bY bz g g1 g2 k W
  af : At W 62 bf (aa fa)
  al : At W 62 bl (aa la)
theorem F3.then {w : World} {A Rs : List Rec} {nl : Nat → Bool} {Ls : Nat → List ByteArray} {b off R : Nat} {X Y Z : Rec} {bx bY bz g g1 g2 k bf bl : Nat} {fa la : Rec} {W W2 : World} (h : F3 w A Rs nl Ls b off R X Y Z bx bY bz g g1 g2 k bf bl fa la W) (hb : Below W.heap.size W W2) :
    F3 w A Rs nl Ls b off R X Y Z bx bY bz g g1 g2 k bf bl fa la W2 := ⟨h.d.then hb, h.af.kept hb, h.al.kept hb⟩
theorem F3.drew {w : World} {A Rs : List Rec} {nl : Nat → Bool} {Ls : Nat → List ByteArray} {b off R : Nat} {X Y Z : Rec} {bx bY bz g g1 g2 k bf bl : Nat} {fa la : Rec} {W : World} (h : F3 w A Rs nl Ls b off R X Y Z bx bY bz g g1 g2 k bf bl fa la W) : F3 w A Rs nl Ls b off R X Y Z bx bY bz g g1 g2 k bf bl fa la W.drew := h.then (Below.refl _ _).drew
theorem run_neq60 {d : Option Tmp} {x y : Operand} {ty : TypeId} {pos : String} {af : Array Edge} {gd : Option (Nat × Bool)} {a : Act} {l : Rec} {w : World} (hx : a.eval x = .agg (ts l)) (hy : a.eval y = .agg (ts l)) :
    (execOp a.eval (Oper.mk d (.binOp .neq 60 x y 60) ty pos af gd)).run Try.prog w = .ok (.value (.bool false)) w := by
  simp only [execOp, hx, hy, Sem.run_bind, run_eqGuard_agg _ _ _ _ _ _ _ Try.guard60, Result.andThen_ok, neq60, Sem.run_pure]
set_option maxRecDepth 100000 in
set_option maxHeartbeats 1000000 in
theorem law3_some (b off cap n : Nat) (kk : Int) (A : List Rec) (nl : Nat → Bool) (Ls : Nat → List ByteArray) (hn : A.length = n) (hpos : 0 < n) (hm : n ≤ maxLen) (w : World)
    (hR : ∀ (i : Nat) (a : Rec), A[i]? = some a → w.rangeAt b (off + i * 11) (aa a).toList ∧ SL w a.ans (nl i) (Ls i)) :
    Calls Try.prog 3 #[.slice (some ⟨b, off, none⟩) n cap, .int .i64 kk] w fun e w' => e = .returned (.bool true) ∧ Below w.heap.size w w' := by
  have HR : Hid _ := hR
  have hn0 : (0 : Int) < (n : Int) := by omega
  have HM : Hid (n ≤ maxLen) := hm
  clear hR hm
  go_enter Try.func3, Try.ntmps3
  go_wp2_with fail
  refine (bytes5_n b off cap n kk A nl Ls hn HM.out w HR.out).mono ?_
  rintro e wq ⟨⟨r, rfl, hr⟩, hq⟩
  subst wq
  cases r
  · go_wp2
    go_ret
    exact ⟨rfl, Below.refl _ _⟩
  obtain ⟨hl20, hfit⟩ := hr rfl
  rw [hn] at hl20 hfit
  have HL : Hid (n ≤ 2 ^ 20) := hl20
  have HF : Hid (Fits Ls n) := hfit
  have hnM : (n : Int) ≤ 1048576 := by omega
  clear hl20 hfit hr
  go_wp2_with fail
  refine (big_n b off cap n A nl Ls hn HM.out w HR.out).mono ?_
  rintro e wb ⟨⟨r, rfl⟩, hb⟩
  have HB : Hid _ := hb
  clear hb
  cases r
  case true =>
    go_wp2
    go_ret
    exact ⟨rfl, HB.out⟩
  by_cases hn2 : (n : Int) < 2
  · go_wp2
    go_ret
    exact ⟨rfl, HB.out⟩
  by_cases hk1 : kk < 1
  · go_wp2
    go_ret
    exact ⟨rfl, HB.out⟩
  by_cases hk2 : (n : Int) ≤ kk
  · go_wp2
    go_ret
    exact ⟨rfl, HB.out⟩
  obtain ⟨k, rfl⟩ : ∃ k : Nat, kk = k := ⟨kk.toNat, by omega⟩
  have HR2 : Hid (∀ (i : Nat) (a : Rec), A[i]? = some a → wb.rangeAt b (off + i * 11) (aa a).toList ∧ SL wb a.ans (nl i) (Ls i)) := fun i a h => ⟨range_kept (HR.out i a h).1 HB.out, (HR.out i a h).2.kept HB.out⟩
  clear HR
  go_wp2_with fail
  refine (build_n b off cap n A nl Ls hn HL.out hpos HF.out wb HR2.out).mono ?_
  rintro e w1 ⟨⟨Rs, rfl, hRs, hSB⟩, hb1⟩
  obtain ⟨f, hf⟩ : ∃ a, Rs[0]? = some a := ⟨_, List.getElem?_eq_getElem (by omega)⟩
  obtain ⟨l, hl⟩ : ∃ a, Rs[n - 1]? = some a := ⟨_, List.getElem?_eq_getElem (by omega)⟩
  obtain ⟨m, hm⟩ : ∃ a, Rs[k - 1]? = some a := ⟨_, List.getElem?_eq_getElem (by omega)⟩
  obtain ⟨h, hh⟩ : ∃ a, Rs[k]? = some a := ⟨_, List.getElem?_eq_getElem (by omega)⟩
  have HB1 : Hid (B3 w A Rs nl Ls b off wb.heap.size w1) := ⟨fun i a hi => ⟨range_kept (HR2.out i a hi).1 hb1, (HR2.out i a hi).2.kept hb1⟩, hSB.done, fun i r a hi ha => ⟨(hSB.like i r a hi ha).eq, (hSB.like i r a hi ha).sl.sl⟩, bthen HB.out hb1⟩
  have hlen : Rs.length = A.length := by omega
  have Hlen : Hid _ := hlen
  have HRs : Hid _ := hRs
  have Hn : Hid _ := hn
  have Hf : Hid _ := hf
  have Hl : Hid _ := hl
  have Hm : Hid _ := hm
  have Hh : Hid _ := hh
  clear hSB hb1 HR2 hlen hRs hn hf hl hm hh HM HB
  generalize wb.heap.size = R at *
  clear wb
  go_wp2_with fail
  refine (HB1.out.whole Hlen.out n HRs.out HL.out f l Hf.out Hl.out).mono ?_
  rintro e w2 ⟨⟨g, rfl, hg, hAtt⟩, hb2⟩
  have HA : Hid (Atts w2 g Rs) := hAtt
  have HB2 : Hid (B3 w A Rs nl Ls b off R w2) := HB1.out.then hb2
  have oI : (rs (rep f l (.slice (some ⟨g, 0, none⟩) n n))).all (·.oneCell') = true := rs_one ⟨(HB1.out.ok Hlen.out _ _ Hl.out).ans, rfl⟩
  have HI : Hid ((rs (rep f l (.slice (some ⟨g, 0, none⟩) n n)))[32]? = some (.slice (some ⟨g, 0, none⟩) n n)) := rfl
  obtain ⟨X, hX⟩ : ∃ X, X = rep f l (.slice (some ⟨g, 0, none⟩) n n) := ⟨_, rfl⟩
  rw [← hX] at oI HI ⊢
  have HX : Hid _ := hX
  have HOX : Hid _ := oI
  clear hg hAtt hb2 HB1 hX oI
  have HB3 : Hid (B3 w A Rs nl Ls b off R (w2.alloc (.cells (rs X) 55)) ∧ At (w2.alloc (.cells (rs X) 55)) 55 w2.heap.size (rs X) ∧ Atts (w2.alloc (.cells (rs X) 55)) g Rs) := ⟨HB2.out.then (alb _ _), At.new _ _ _, HA.out.kept (alb _ _)⟩
  go_wp2_with (first | (with_reducible refine al' 55 (rs r0) z55 ?_) | ((with_reducible refine sn' 55 _ _ L55 (rs r0) (rs X) ?_ ?_ (rs_size r0) (rs_size X) HOX.out ?_); rfl; rfl; generalize w2.alloc (.cells (rs X) 55) = w3 at *))
  clear HB2 HA
  refine (HB3.out.1.left Hlen.out n k HRs.out HL.out (by omega) (by omega) f m Hf.out Hm.out).mono ?_
  rintro e w4 ⟨⟨g1, rfl, hg, hAtt⟩, hb⟩
  have oI : (rs (rep f m (.slice (some ⟨g1, 0, none⟩) k k))).all (·.oneCell') = true := rs_one ⟨(HB3.out.1.ok Hlen.out _ _ Hm.out).ans, rfl⟩
  have HIy : Hid ((rs (rep f m (.slice (some ⟨g1, 0, none⟩) k k)))[32]? = some (.slice (some ⟨g1, 0, none⟩) k k)) := rfl
  obtain ⟨Y, hY⟩ : ∃ Y, Y = rep f m (.slice (some ⟨g1, 0, none⟩) k k) := ⟨_, rfl⟩
  rw [← hY] at oI HIy ⊢
  have HY : Hid _ := hY
  have HOY : Hid _ := oI
  have HB5 : Hid (B3 w A Rs nl Ls b off R (w4.alloc (.cells (rs Y) 55)) ∧ At (w4.alloc (.cells (rs Y) 55)) 55 w2.heap.size (rs X) ∧ Atts (w4.alloc (.cells (rs Y) 55)) g Rs ∧ At (w4.alloc (.cells (rs Y) 55)) 55 w4.heap.size (rs Y) ∧ Atts (w4.alloc (.cells (rs Y) 55)) g1 (Rs.take k)) :=
    ⟨(HB3.out.1.then hb).then (alb _ _), (HB3.out.2.1.kept hb).alloc _, (HB3.out.2.2.kept hb).kept (alb _ _), At.new _ _ _, hAtt.kept (alb _ _)⟩
  clear hg hAtt hb hY oI HB3
  go_wp2_with (first | (with_reducible refine al' 55 (rs r0) z55 ?_) | ((with_reducible refine sn' 55 _ _ L55 (rs r0) (rs Y) ?_ ?_ (rs_size r0) (rs_size Y) HOY.out ?_); rfl; rfl; generalize w4.alloc (.cells (rs Y) 55) = w5 at *))
  refine (HB5.out.1.right Hlen.out n k HRs.out HL.out (by omega) (by omega) h l Hh.out Hl.out).mono ?_
  rintro e w6 ⟨⟨g2, rfl, hg, hAtt⟩, hb⟩
  have oI : (rs (rep h l (.slice (some ⟨g2, 0, none⟩) (n - k) (n - k)))).all (·.oneCell') = true := rs_one ⟨(HB5.out.1.ok Hlen.out _ _ Hl.out).ans, rfl⟩
  have HIz : Hid ((rs (rep h l (.slice (some ⟨g2, 0, none⟩) (n - k) (n - k))))[32]? = some (.slice (some ⟨g2, 0, none⟩) (n - k) (n - k))) := rfl
  obtain ⟨Z, hZ⟩ : ∃ Z, Z = rep h l (.slice (some ⟨g2, 0, none⟩) (n - k) (n - k)) := ⟨_, rfl⟩
  rw [← hZ] at oI HIz ⊢
  have HZ : Hid _ := hZ
  have HOZ : Hid _ := oI
  have HD7 : Hid (D3 w A Rs nl Ls b off R X Y Z w2.heap.size w4.heap.size w6.heap.size g g1 g2 k (w6.alloc (.cells (rs Z) 55))) :=
    ⟨(HB5.out.1.then hb).then (alb _ _), (HB5.out.2.1.kept hb).alloc _, (HB5.out.2.2.2.1.kept hb).alloc _, At.new _ _ _, (HB5.out.2.2.1.kept hb).kept (alb _ _), (HB5.out.2.2.2.2.kept hb).kept (alb _ _), hAtt.kept (alb _ _)⟩
  have hnk : (((n - k : Nat) : Int) != (n : Int) - (k : Int)) = false := by simp; omega
  have c1 := HD7.out.x.cell 32 HI.out
  have c2 := HD7.out.y.cell 32 HIy.out
  have c3 := HD7.out.z.cell 32 HIz.out
  clear hg hAtt hb hZ oI HB5
  go_wp2_with (first | (with_reducible refine al' 55 (rs r0) z55 ?_) | ((with_reducible refine sn' 55 _ _ L55 (rs r0) (rs Z) ?_ ?_ (rs_size r0) (rs_size Z) HOZ.out ?_); rfl; rfl; generalize w6.alloc (.cells (rs Z) 55) = w7 at *))
  clear c1 c2 c3
  go_loopw [10] (fun i wr => ∃ j : Nat, j ≤ n ∧ i = .int .i64 (j : Int) ∧ D3 w A Rs nl Ls b off R X Y Z w2.heap.size w4.heap.size w6.heap.size g g1 g2 k wr) (fun i _ => n - (intOf i).toNat)
  case atStart => exact ⟨0, Nat.zero_le _, rfl, HD7.out⟩
  case round =>
    clear HD7
    obtain ⟨j, hj, rfl, hD⟩ := hrel
    generalize w2.heap.size = bx at *
    generalize w4.heap.size = bY at *
    generalize w6.heap.size = bz at *
    by_cases hlt : j < n
    · obtain ⟨r, hr⟩ : ∃ a, Rs[j]? = some a := ⟨_, List.getElem?_eq_getElem (by have := HRs.out; omega)⟩
      obtain ⟨a, ha⟩ : ∃ a, A[j]? = some a := ⟨_, List.getElem?_eq_getElem (by have := Hn.out; omega)⟩
      have hjI : (j : Int) < (n : Int) := by omega
      have hlk := (hD.base.like j r a hr ha).1
      have t3 : (ts r)[3]? = some (.int .i64 a.st) := by rw [hlk]; rfl
      have t4 : (ts r)[4]? = some (.int .i64 a.du) := by rw [hlk]; rfl
      have HT : Hid (wr.rangeAt g (j * 5) (ts r).toList) := hD.g j r hr
      have hb8 := alb wr (.cells (ts r) 60)
      have HE : Hid (E3 w A Rs nl Ls b off R X Y Z bx bY bz g g1 g2 k wr.heap.size r (wr.alloc (.cells (ts r) 60))) := ⟨hD.then hb8, At.new _ _ _⟩
      have c1 := hD.x.cell 32 HI.out
      have HOt : Hid ((ts r).all (·.oneCell') = true) := ts_one r
      have Hr : Hid (Rs[j]? = some r) := hr
      have T3 : Hid _ := t3
      have T4 : Hid _ := t4
      have Ha : Hid _ := ha
      clear hlk t3 t4 hb8 hD hr ha
      by_cases hjk : j < k
      · have hjkI : (j : Int) < (k : Int) := by omega
        have HT1 : Hid ((Rs.take k)[j]? = some r) := by
          show _ = _
          rw [List.getElem?_take_of_lt hjk]; exact Hr.out
        go_wp2_with (first | (with_reducible refine al' 60 t0 z60 ?_) | ((with_reducible refine lm' 60 _ L60 g (j * 5) (ts r) ?_ HT.out (ts_size r) ?_); rfl) | ((with_reducible refine sn' 60 _ _ L60 t0 (ts r) ?_ ?_ rfl (ts_size r) HOt.out ?_); rfl; rfl; generalize wr.alloc (.cells (ts r) 60) = w8 at *))
        refine wp_region_held_drew (S := E3 w A Rs nl Ls b off R X Y Z bx bY bz g g1 g2 k wr.heap.size r) (by kernel_rfl) HE.out.drew (fun hHeld => ?_)
        refine wpAnyH_take (i := 0) (v := .agg (ts r)) (op_at rfl) (by kernel_rfl) (by kernel_rfl) (by kernel_rfl) (fun _ _ _ h => h) (yld (by rfl) 60 _ rfl L60 wr.heap.size (0) rfl (ts r) (ts_size r) (fun _ h => h.t.range)) hHeld ?_
        simp only [Act.put, List.setIfInBounds_toArray, List.set_cons_zero, List.set_cons_succ]
        refine wpAnyH_take (i := 1) (v := .pointer (some ⟨bY, 32, none⟩)) (op_at rfl) (by kernel_rfl) (by kernel_rfl) (by kernel_rfl) (fun _ _ _ h => h) (Or.inl ⟨by rfl, fun w hSw => by go_simp⟩) hHeld ?_
        simp only [Act.put, List.setIfInBounds_toArray, List.set_cons_zero, List.set_cons_succ]
        refine wpAnyH_take (i := 2) (v := .slice (some ⟨g1, 0, none⟩) k k) (op_at rfl) (by kernel_rfl) (by kernel_rfl) (by kernel_rfl) (fun _ _ _ h => h) (Or.inl ⟨by rfl, fun w hSw => by have := hSw.d.y.cell 32 HIy.out; go_simp⟩) hHeld ?_
        simp only [Act.put, List.setIfInBounds_toArray, List.set_cons_zero, List.set_cons_succ]
        refine wpAnyH_take (i := 3) (v := .int .i64 j) (op_at rfl) (by kernel_rfl) (by kernel_rfl) (by kernel_rfl) (fun _ _ _ h => h) (Or.inl ⟨by rfl, fun w hSw => by go_simp⟩) hHeld ?_
        simp only [Act.put, List.setIfInBounds_toArray, List.set_cons_zero, List.set_cons_succ]
        refine wpAnyH_take (i := 4) (v := .pointer (some ⟨g1, j * 5, none⟩)) (op_at rfl) (by kernel_rfl) (by kernel_rfl) (by kernel_rfl) (fun _ _ _ h => h) (Or.inl ⟨by rfl, fun w hSw => by go_simp⟩) hHeld ?_
        simp only [Act.put, List.setIfInBounds_toArray, List.set_cons_zero, List.set_cons_succ]
        refine wpAnyH_take (i := 5) (v := .agg (ts r)) (op_at rfl) (by kernel_rfl) (by kernel_rfl) (by kernel_rfl) (fun _ _ _ h => h) (yld (by rfl) 60 _ rfl L60 g1 (j * 5) rfl (ts r) (ts_size r) (fun _ h => h.d.g1 j r HT1.out)) hHeld ?_
        simp only [Act.put, List.setIfInBounds_toArray, List.set_cons_zero, List.set_cons_succ]
        refine wpAnyH_take (i := 6) (v := .bool false) (op_at rfl) (by kernel_rfl) (by kernel_rfl) (by kernel_rfl) (fun _ _ _ h => h) (Or.inl ⟨by rfl, fun w hSw => run_neq60 rfl rfl⟩) hHeld ?_
        simp only [Act.put, List.setIfInBounds_toArray, List.set_cons_zero, List.set_cons_succ]
        refine wpAnyH_done (by kernel_rfl) ?_ _
        have hE := hHeld
        clear hHeld HE
        generalize w8.drew = w9 at *
        have c4 := hE.t.cell 3 T3.out
        have c5 := hE.t.cell 4 T4.out
        have c6 : w9.cell? ⟨b, off + j * 11 + 2, none⟩ = some (.int .i64 a.st) := (hE.d.base.args j a Ha.out).1 2 _ (aa2 a)
        have c7 : w9.cell? ⟨b, off + j * 11 + 3, none⟩ = some (.int .i64 a.du) := (hE.d.base.args j a Ha.out).1 3 _ (aa3 a)
        have HE : Hid _ := hE
        clear hE
        go_wp2
        go_quiet (fail)
        go_wp2
        have HE2 : Hid _ := HE.out.then (below_drewN (Below.refl _ _) nq)
        clear HE c4 c5 c6 c7 c1
        refine wp_region_held_drew (S := E3 w A Rs nl Ls b off R X Y Z bx bY bz g g1 g2 k wr.heap.size r) (by kernel_rfl) HE2.out.drew (fun hHeld => ?_)
        refine wpAnyH_take (i := 0) (v := .pointer (some ⟨wr.heap.size, 0, none⟩)) (op_at rfl) (by kernel_rfl) (by kernel_rfl) (by kernel_rfl) (fun _ _ _ h => h) (Or.inl ⟨by rfl, fun w hSw => by go_simp⟩) hHeld ?_
        simp only [Act.put, List.setIfInBounds_toArray, List.set_cons_zero, List.set_cons_succ]
        refine wpAnyH_take (i := 1) (v := .agg (vs r)) (op_at rfl) (by kernel_rfl) (by kernel_rfl) (by kernel_rfl) (fun _ _ _ h => h) (yld (by rfl) 58 _ rfl L58 wr.heap.size (0) rfl (vs r) rfl (fun _ h => range_pre (xs := (vs r).toList) (ys := [.int .i64 r.st, .int .i64 r.du]) h.t.range)) hHeld ?_
        simp only [Act.put, List.setIfInBounds_toArray, List.set_cons_zero, List.set_cons_succ]
        refine wpAnyH_take (i := 2) (v := .slice (some ⟨R, 0, none⟩) n n) (op_at rfl) (by kernel_rfl) (by kernel_rfl) (by kernel_rfl) (fun _ _ _ h => h) (Or.inl ⟨by rfl, fun w hSw => by go_simp⟩) hHeld ?_
        simp only [Act.put, List.setIfInBounds_toArray, List.set_cons_zero, List.set_cons_succ]
        refine wpAnyH_take (i := 3) (v := .int .i64 j) (op_at rfl) (by kernel_rfl) (by kernel_rfl) (by kernel_rfl) (fun _ _ _ h => h) (Or.inl ⟨by rfl, fun w hSw => by go_simp⟩) hHeld ?_
        simp only [Act.put, List.setIfInBounds_toArray, List.set_cons_zero, List.set_cons_succ]
        refine wpAnyH_take (i := 4) (v := .pointer (some ⟨R, j * 36, none⟩)) (op_at rfl) (by kernel_rfl) (by kernel_rfl) (by kernel_rfl) (fun _ _ _ h => h) (Or.inl ⟨by rfl, fun w hSw => by go_simp⟩) hHeld ?_
        simp only [Act.put, List.setIfInBounds_toArray, List.set_cons_zero, List.set_cons_succ]
        refine wpAnyH_take (i := 5) (v := .agg (rs r)) (op_at rfl) (by kernel_rfl) (by kernel_rfl) (by kernel_rfl) (fun _ _ _ h => h) (yld (by rfl) 55 _ rfl L55 R (j * 36) rfl (rs r) (rs_size r) (fun _ h => h.d.base.recs j r Hr.out)) hHeld ?_
        simp only [Act.put, List.setIfInBounds_toArray, List.set_cons_zero, List.set_cons_succ]
        refine wpAnyH_ready (rs := [6]) (by kernel_rfl) (by simp) ?_
        refine AllReadyH.cons (op_at rfl) (fun K hK => ?_) AllReadyH.nil
        go_simp
        refine (verdict_any r _).mono ?_
        rintro e w10 ⟨rfl, hb10⟩
        refine hK.out _ _ (hHeld.then hb10) (fun hHeld' => ?_)
        clear hK K hHeld
        have hHeld := hHeld'
        clear hHeld'
        try simp only [Act.put, List.setIfInBounds_toArray, List.set_cons_zero, List.set_cons_succ]
        simp only [← show vs r = #[.bool r.ok, .string r.fop, .string r.fail] from rfl]
        refine wpAnyH_take (i := 7) (v := .bool false) (op_at rfl) (by kernel_rfl) (by kernel_rfl) (by kernel_rfl) (fun _ _ _ h => h) (Or.inl ⟨by rfl, fun w hSw => run_neq58 rfl rfl⟩) hHeld ?_
        simp only [Act.put, List.setIfInBounds_toArray, List.set_cons_zero, List.set_cons_succ]
        refine wpAnyH_done (by kernel_rfl) ?_ _
        go_wp2
        go_roundw
        case rel => exact ⟨j + 1, by omega, by go_num, hHeld.d⟩
        case measure => simp [intOf] <;> omega
      · have hjkI : (k : Int) ≤ (j : Int) := by omega
        have hwj : IntKind.i64.wrap ((j : Int) - (k : Int)) = ((j - k : Nat) : Int) := by simp [IntKind.wrap, IntKind.bits, IntKind.signed]; omega
        have HT2 : Hid ((Rs.drop k)[j - k]? = some r) := by
          show _ = _
          rw [List.getElem?_drop, show k + (j - k) = j by omega]; exact Hr.out
        go_wp2_with (first | (with_reducible refine al' 60 t0 z60 ?_) | ((with_reducible refine lm' 60 _ L60 g (j * 5) (ts r) ?_ HT.out (ts_size r) ?_); rfl) | ((with_reducible refine sn' 60 _ _ L60 t0 (ts r) ?_ ?_ rfl (ts_size r) HOt.out ?_); rfl; rfl; generalize wr.alloc (.cells (ts r) 60) = w8 at *))
        refine wp_region_held_drew (S := E3 w A Rs nl Ls b off R X Y Z bx bY bz g g1 g2 k wr.heap.size r) (by kernel_rfl) HE.out.drew (fun hHeld => ?_)
        refine wpAnyH_take (i := 0) (v := .agg (ts r)) (op_at rfl) (by kernel_rfl) (by kernel_rfl) (by kernel_rfl) (fun _ _ _ h => h) (yld (by rfl) 60 _ rfl L60 wr.heap.size (0) rfl (ts r) (ts_size r) (fun _ h => h.t.range)) hHeld ?_
        simp only [Act.put, List.setIfInBounds_toArray, List.set_cons_zero, List.set_cons_succ]
        refine wpAnyH_take (i := 1) (v := .pointer (some ⟨bz, 32, none⟩)) (op_at rfl) (by kernel_rfl) (by kernel_rfl) (by kernel_rfl) (fun _ _ _ h => h) (Or.inl ⟨by rfl, fun w hSw => by go_simp⟩) hHeld ?_
        simp only [Act.put, List.setIfInBounds_toArray, List.set_cons_zero, List.set_cons_succ]
        refine wpAnyH_take (i := 2) (v := .slice (some ⟨g2, 0, none⟩) (n - k) (n - k)) (op_at rfl) (by kernel_rfl) (by kernel_rfl) (by kernel_rfl) (fun _ _ _ h => h) (Or.inl ⟨by rfl, fun w hSw => by have := hSw.d.z.cell 32 HIz.out; go_simp⟩) hHeld ?_
        simp only [Act.put, List.setIfInBounds_toArray, List.set_cons_zero, List.set_cons_succ]
        refine wpAnyH_take (i := 3) (v := .int .i64 j) (op_at rfl) (by kernel_rfl) (by kernel_rfl) (by kernel_rfl) (fun _ _ _ h => h) (Or.inl ⟨by rfl, fun w hSw => by go_simp⟩) hHeld ?_
        simp only [Act.put, List.setIfInBounds_toArray, List.set_cons_zero, List.set_cons_succ]
        refine wpAnyH_take (i := 4) (v := .int .i64 k) (op_at rfl) (by kernel_rfl) (by kernel_rfl) (by kernel_rfl) (fun _ _ _ h => h) (Or.inl ⟨by rfl, fun w hSw => by go_simp⟩) hHeld ?_
        simp only [Act.put, List.setIfInBounds_toArray, List.set_cons_zero, List.set_cons_succ]
        refine wpAnyH_take (i := 5) (v := .int .i64 ((j - k : Nat) : Int)) (op_at rfl) (by kernel_rfl) (by kernel_rfl) (by kernel_rfl) (fun _ _ _ h => h) (Or.inl ⟨by rfl, fun w hSw => by go_simp⟩) hHeld ?_
        simp only [Act.put, List.setIfInBounds_toArray, List.set_cons_zero, List.set_cons_succ]
        refine wpAnyH_take (i := 6) (v := .pointer (some ⟨g2, (j - k) * 5, none⟩)) (op_at rfl) (by kernel_rfl) (by kernel_rfl) (by kernel_rfl) (fun _ _ _ h => h) (Or.inl ⟨by rfl, fun w hSw => by go_simp; intro h; exfalso; omega⟩) hHeld ?_
        simp only [Act.put, List.setIfInBounds_toArray, List.set_cons_zero, List.set_cons_succ]
        refine wpAnyH_take (i := 7) (v := .agg (ts r)) (op_at rfl) (by kernel_rfl) (by kernel_rfl) (by kernel_rfl) (fun _ _ _ h => h) (yld (by rfl) 60 _ rfl L60 g2 ((j - k) * 5) rfl (ts r) (ts_size r) (fun _ h => h.d.g2 (j - k) r HT2.out)) hHeld ?_
        simp only [Act.put, List.setIfInBounds_toArray, List.set_cons_zero, List.set_cons_succ]
        refine wpAnyH_take (i := 8) (v := .bool false) (op_at rfl) (by kernel_rfl) (by kernel_rfl) (by kernel_rfl) (fun _ _ _ h => h) (Or.inl ⟨by rfl, fun w hSw => run_neq60 rfl rfl⟩) hHeld ?_
        simp only [Act.put, List.setIfInBounds_toArray, List.set_cons_zero, List.set_cons_succ]
        refine wpAnyH_done (by kernel_rfl) ?_ _
        have hE := hHeld
        clear hHeld HE
        generalize w8.drew = w9 at *
        have c4 := hE.t.cell 3 T3.out
        have c5 := hE.t.cell 4 T4.out
        have c6 : w9.cell? ⟨b, off + j * 11 + 2, none⟩ = some (.int .i64 a.st) := (hE.d.base.args j a Ha.out).1 2 _ (aa2 a)
        have c7 : w9.cell? ⟨b, off + j * 11 + 3, none⟩ = some (.int .i64 a.du) := (hE.d.base.args j a Ha.out).1 3 _ (aa3 a)
        have HE : Hid _ := hE
        clear hE
        go_wp2
        go_quiet (fail)
        go_wp2
        have HE2 : Hid _ := HE.out.then (below_drewN (Below.refl _ _) nq)
        clear HE c4 c5 c6 c7 c1
        refine wp_region_held_drew (S := E3 w A Rs nl Ls b off R X Y Z bx bY bz g g1 g2 k wr.heap.size r) (by kernel_rfl) HE2.out.drew (fun hHeld => ?_)
        refine wpAnyH_take (i := 0) (v := .pointer (some ⟨wr.heap.size, 0, none⟩)) (op_at rfl) (by kernel_rfl) (by kernel_rfl) (by kernel_rfl) (fun _ _ _ h => h) (Or.inl ⟨by rfl, fun w hSw => by go_simp⟩) hHeld ?_
        simp only [Act.put, List.setIfInBounds_toArray, List.set_cons_zero, List.set_cons_succ]
        refine wpAnyH_take (i := 1) (v := .agg (vs r)) (op_at rfl) (by kernel_rfl) (by kernel_rfl) (by kernel_rfl) (fun _ _ _ h => h) (yld (by rfl) 58 _ rfl L58 wr.heap.size (0) rfl (vs r) rfl (fun _ h => range_pre (xs := (vs r).toList) (ys := [.int .i64 r.st, .int .i64 r.du]) h.t.range)) hHeld ?_
        simp only [Act.put, List.setIfInBounds_toArray, List.set_cons_zero, List.set_cons_succ]
        refine wpAnyH_take (i := 2) (v := .slice (some ⟨R, 0, none⟩) n n) (op_at rfl) (by kernel_rfl) (by kernel_rfl) (by kernel_rfl) (fun _ _ _ h => h) (Or.inl ⟨by rfl, fun w hSw => by go_simp⟩) hHeld ?_
        simp only [Act.put, List.setIfInBounds_toArray, List.set_cons_zero, List.set_cons_succ]
        refine wpAnyH_take (i := 3) (v := .int .i64 j) (op_at rfl) (by kernel_rfl) (by kernel_rfl) (by kernel_rfl) (fun _ _ _ h => h) (Or.inl ⟨by rfl, fun w hSw => by go_simp⟩) hHeld ?_
        simp only [Act.put, List.setIfInBounds_toArray, List.set_cons_zero, List.set_cons_succ]
        refine wpAnyH_take (i := 4) (v := .pointer (some ⟨R, j * 36, none⟩)) (op_at rfl) (by kernel_rfl) (by kernel_rfl) (by kernel_rfl) (fun _ _ _ h => h) (Or.inl ⟨by rfl, fun w hSw => by go_simp⟩) hHeld ?_
        simp only [Act.put, List.setIfInBounds_toArray, List.set_cons_zero, List.set_cons_succ]
        refine wpAnyH_take (i := 5) (v := .agg (rs r)) (op_at rfl) (by kernel_rfl) (by kernel_rfl) (by kernel_rfl) (fun _ _ _ h => h) (yld (by rfl) 55 _ rfl L55 R (j * 36) rfl (rs r) (rs_size r) (fun _ h => h.d.base.recs j r Hr.out)) hHeld ?_
        simp only [Act.put, List.setIfInBounds_toArray, List.set_cons_zero, List.set_cons_succ]
        refine wpAnyH_ready (rs := [6]) (by kernel_rfl) (by simp) ?_
        refine AllReadyH.cons (op_at rfl) (fun K hK => ?_) AllReadyH.nil
        go_simp
        refine (verdict_any r _).mono ?_
        rintro e w10 ⟨rfl, hb10⟩
        refine hK.out _ _ (hHeld.then hb10) (fun hHeld' => ?_)
        clear hK K hHeld
        have hHeld := hHeld'
        clear hHeld'
        try simp only [Act.put, List.setIfInBounds_toArray, List.set_cons_zero, List.set_cons_succ]
        simp only [← show vs r = #[.bool r.ok, .string r.fop, .string r.fail] from rfl]
        refine wpAnyH_take (i := 7) (v := .bool false) (op_at rfl) (by kernel_rfl) (by kernel_rfl) (by kernel_rfl) (fun _ _ _ h => h) (Or.inl ⟨by rfl, fun w hSw => run_neq58 rfl rfl⟩) hHeld ?_
        simp only [Act.put, List.setIfInBounds_toArray, List.set_cons_zero, List.set_cons_succ]
        refine wpAnyH_done (by kernel_rfl) ?_ _
        go_wp2
        go_roundw
        case rel => exact ⟨j + 1, by omega, by go_num, hHeld.d⟩
        case measure => simp [intOf] <;> omega
    · obtain rfl : j = n := by omega
      obtain ⟨fa, hfa⟩ : ∃ a, A[0]? = some a := ⟨_, List.getElem?_eq_getElem (by have := Hn.out; omega)⟩
      obtain ⟨la, hla⟩ : ∃ a, A[j - 1]? = some a := ⟨_, List.getElem?_eq_getElem (by have := Hn.out; omega)⟩
      obtain ⟨ma, hma⟩ : ∃ a, A[k - 1]? = some a := ⟨_, List.getElem?_eq_getElem (by have := Hn.out; omega)⟩
      obtain ⟨ha, hha⟩ : ∃ a, A[k]? = some a := ⟨_, List.getElem?_eq_getElem (by have := Hn.out; omega)⟩
      have Hla : Hid _ := hla
      have Hma : Hid _ := hma
      have lf := (hD.base.like _ _ _ Hf.out hfa).1
      have ll := (hD.base.like _ _ _ Hl.out hla).1
      have lm := (hD.base.like _ _ _ Hm.out hma).1
      have HLl : Hid ((Ls (j - 1)).length ≤ 2 ^ 20) := HF.out _ (by omega)
      have HLm : Hid ((Ls (k - 1)).length ≤ 2 ^ 20) := HF.out _ (by omega)
      have HsX : Hid (Same X la) := by rw [HX.out, ll]; exact ⟨rfl, rfl, rfl, rfl, rfl, rfl, rfl, rfl⟩
      have HsZ : Hid (Same Z la) := by rw [HZ.out, ll]; exact ⟨rfl, rfl, rfl, rfl, rfl, rfl, rfl, rfl⟩
      have HsY : Hid (Same Y ma) := by rw [HY.out, lm]; exact ⟨rfl, rfl, rfl, rfl, rfl, rfl, rfl, rfl⟩
      have HaX : Hid (X.ans = l.ans) := by rw [HX.out]; rfl
      have HaZ : Hid (Z.ans = l.ans) := by rw [HZ.out]; rfl
      have HaY : Hid (Y.ans = m.ans) := by rw [HY.out]; rfl
      have eX : X.st = fa.st := by rw [HX.out]; show f.st = _; rw [lf]
      have eY : Y.st = fa.st := by rw [HY.out]; show f.st = _; rw [lf]
      have hEx : wrap64 (fa.st + X.du) = wrap64 (la.st + la.du) := by
        rw [← eX, HX.out]
        show wrap64 (f.st + wrap64 (wrap64 (l.st + l.du) - f.st)) = _
        rw [wrap_a, ll]
      have hEz : wrap64 (Z.st + Z.du) = wrap64 (la.st + la.du) := by
        rw [HZ.out]
        show wrap64 (h.st + wrap64 (wrap64 (l.st + l.du) - h.st)) = _
        rw [wrap_a, ll]
      have hEy : wrap64 (fa.st + Y.du) = wrap64 (ma.st + ma.du) := by
        rw [← eY, HY.out]
        show wrap64 (f.st + wrap64 (wrap64 (m.st + m.du) - f.st)) = _
        rw [wrap_a, lm]
      have R7 : Hid (wr.rangeAt b off (aa fa).toList) := by
        have := (hD.base.args _ _ hfa).1
        rwa [Nat.zero_mul, Nat.add_zero] at this
      have R8 : Hid ((wr.alloc (.cells (aa fa) 62)).rangeAt b (off + (j - 1) * 11) (aa la).toList) := range_kept (hD.base.args _ _ hla).1 (alb _ _)
      have HOf : Hid ((aa fa).all (·.oneCell') = true) := by
        have := (hD.base.args _ _ hfa).2.one
        show _ = _
        simp [aa, al, Value.oneCell']
        exact this
      have HOl : Hid ((aa la).all (·.oneCell') = true) := by
        have := (hD.base.args _ _ hla).2.one
        show _ = _
        simp [aa, al, Value.oneCell']
        exact this
      have HG : Hid (F3 w A Rs nl Ls b off R X Y Z bx bY bz g g1 g2 k wr.heap.size (wr.alloc (.cells (aa fa) 62)).heap.size fa la ((wr.alloc (.cells (aa fa) 62)).alloc (.cells (aa la) 62))) :=
        ⟨(hD.then (alb _ _)).then (alb _ _), (At.new wr 62 (aa fa)).alloc _, At.new _ 62 (aa la)⟩
      have c1 := HG.out.d.x.cell 29 (rs29 X)
      have c2 := HG.out.d.x.cell 30 (rs30 X)
      have c3 := HG.out.d.y.cell 29 (rs29 Y)
      have c4 := HG.out.d.y.cell 30 (rs30 Y)
      have c5 := HG.out.d.z.cell 29 (rs29 Z)
      have c6 := HG.out.d.z.cell 30 (rs30 Z)
      rw [eX] at c1
      rw [eY] at c3
      have c7 := HG.out.af.cell 2 (aa2 fa)
      have c8 := HG.out.al.cell 2 (aa2 la)
      have c9 := HG.out.al.cell 3 (aa3 la)
      have c10 : ((wr.alloc (.cells (aa fa) 62)).alloc (.cells (aa la) 62)).cell? ⟨b, off + (k - 1) * 11 + 2, none⟩ = some (.int .i64 ma.st) := (HG.out.d.base.args _ _ hma).1 2 _ (aa2 ma)
      have c11 : ((wr.alloc (.cells (aa fa) 62)).alloc (.cells (aa la) 62)).cell? ⟨b, off + (k - 1) * 11 + 3, none⟩ = some (.int .i64 ma.du) := (HG.out.d.base.args _ _ hma).1 3 _ (aa3 ma)
      clear lf ll lm hD hfa hla hma hha eX eY HX HY HZ Hf Hh HOX HOY HOZ
      go_wp2_with (first | (with_reducible refine al' 62 (aa r0) z62 ?_) | ((with_reducible refine lm' 62 _ L62 b off (aa fa) ?_ R7.out (aa_size fa) ?_); rfl) | ((with_reducible refine sn' 62 _ _ L62 (aa r0) (aa fa) ?_ ?_ (aa_size r0) (aa_size fa) HOf.out ?_); rfl; rfl; generalize wr.alloc (.cells (aa fa) 62) = w8 at *) | ((with_reducible refine lm' 62 _ L62 b (off + (j - 1) * 11) (aa la) ?_ R8.out (aa_size la) ?_); rfl) | ((with_reducible refine sn' 62 _ _ L62 (aa r0) (aa la) ?_ ?_ (aa_size r0) (aa_size la) HOl.out ?_); rfl; rfl; generalize World.alloc _ (.cells (aa la) 62) = w9 at *))
      go_quiet (fail)
      go_wp2
      have HG2 : Hid _ := HG.out.then (below_drewN (Below.refl _ _) nq)
      clear HG c1 c2 c3 c4 c5 c6 c7 c8 c9 c10 c11 R7 R8
      have hwk : IntKind.i64.wrap ((k : Int) - 1) = k - 1 := by simp [IntKind.wrap, IntKind.bits, IntKind.signed]; omega
      refine wp_region_held_drew (S := F3 w A Rs nl Ls b off R X Y Z bx bY bz g g1 g2 k wr.heap.size w8.heap.size fa la) (by kernel_rfl) HG2.out.drew (fun hHeld => ?_)
      refine wpAnyH_take (i := 0) (v := .agg (rs X)) (op_at rfl) (by kernel_rfl) (by kernel_rfl) (by kernel_rfl) (fun _ _ _ h => h) (yld (by rfl) 55 _ rfl L55 bx (0) rfl (rs X) (rs_size X) (fun _ h => h.d.x.range)) hHeld ?_
      simp only [Act.put, List.setIfInBounds_toArray, List.set_cons_zero, List.set_cons_succ]
      refine wpAnyH_take (i := 1) (v := .agg (aa la)) (op_at rfl) (by kernel_rfl) (by kernel_rfl) (by kernel_rfl) (fun _ _ _ h => h) (yld (by rfl) 62 _ rfl L62 w8.heap.size (0) rfl (aa la) (aa_size la) (fun _ h => h.al.range)) hHeld ?_
      simp only [Act.put, List.setIfInBounds_toArray, List.set_cons_zero, List.set_cons_succ]
      refine wpAnyH_ready (rs := [2]) (by kernel_rfl) (by simp) ?_
      refine AllReadyH.cons (op_at rfl) (fun K hK => ?_) AllReadyH.nil
      go_simp
      refine (carries_any X la HsX.out _ _ HLl.out _ (by rw [HaX.out]; exact (hHeld.d.base.like _ _ _ Hl.out Hla.out).2) (hHeld.d.base.args _ _ Hla.out).2).mono ?_
      rintro e w11 ⟨rfl, hb11⟩
      refine hK.out _ _ (hHeld.then hb11) (fun hHeld' => ?_)
      clear hK K hHeld
      have hHeld := hHeld'
      clear hHeld'
      try simp only [Act.put, List.setIfInBounds_toArray, List.set_cons_zero, List.set_cons_succ]
      refine wpAnyH_take (i := 3) (v := .bool true) (op_at rfl) (by kernel_rfl) (by kernel_rfl) (by kernel_rfl) (fun _ _ _ h => h) (Or.inl ⟨by rfl, fun w hSw => by go_simp⟩) hHeld ?_
      simp only [Act.put, List.setIfInBounds_toArray, List.set_cons_zero, List.set_cons_succ]
      refine wpAnyH_take (i := 4) (v := .agg (rs Z)) (op_at rfl) (by kernel_rfl) (by kernel_rfl) (by kernel_rfl) (fun _ _ _ h => h) (yld (by rfl) 55 _ rfl L55 bz (0) rfl (rs Z) (rs_size Z) (fun _ h => h.d.z.range)) hHeld ?_
      simp only [Act.put, List.setIfInBounds_toArray, List.set_cons_zero, List.set_cons_succ]
      refine wpAnyH_take (i := 5) (v := .agg (aa la)) (op_at rfl) (by kernel_rfl) (by kernel_rfl) (by kernel_rfl) (fun _ _ _ h => h) (yld (by rfl) 62 _ rfl L62 w8.heap.size (0) rfl (aa la) (aa_size la) (fun _ h => h.al.range)) hHeld ?_
      simp only [Act.put, List.setIfInBounds_toArray, List.set_cons_zero, List.set_cons_succ]
      refine wpAnyH_ready (rs := [6]) (by kernel_rfl) (by simp) ?_
      refine AllReadyH.cons (op_at rfl) (fun K hK => ?_) AllReadyH.nil
      go_simp
      refine (carries_any Z la HsZ.out _ _ HLl.out _ (by rw [HaZ.out]; exact (hHeld.d.base.like _ _ _ Hl.out Hla.out).2) (hHeld.d.base.args _ _ Hla.out).2).mono ?_
      rintro e w12 ⟨rfl, hb12⟩
      refine hK.out _ _ (hHeld.then hb12) (fun hHeld' => ?_)
      clear hK K hHeld
      have hHeld := hHeld'
      clear hHeld'
      try simp only [Act.put, List.setIfInBounds_toArray, List.set_cons_zero, List.set_cons_succ]
      refine wpAnyH_take (i := 7) (v := .bool true) (op_at rfl) (by kernel_rfl) (by kernel_rfl) (by kernel_rfl) (fun _ _ _ h => h) (Or.inl ⟨by rfl, fun w hSw => by go_simp⟩) hHeld ?_
      simp only [Act.put, List.setIfInBounds_toArray, List.set_cons_zero, List.set_cons_succ]
      refine wpAnyH_take (i := 8) (v := .bool true) (op_at rfl) (by kernel_rfl) (by kernel_rfl) (by kernel_rfl) (fun _ _ _ h => h) (Or.inl ⟨by rfl, fun w hSw => by go_simp⟩) hHeld ?_
      simp only [Act.put, List.setIfInBounds_toArray, List.set_cons_zero, List.set_cons_succ]
      refine wpAnyH_take (i := 9) (v := .agg (rs Y)) (op_at rfl) (by kernel_rfl) (by kernel_rfl) (by kernel_rfl) (fun _ _ _ h => h) (yld (by rfl) 55 _ rfl L55 bY (0) rfl (rs Y) (rs_size Y) (fun _ h => h.d.y.range)) hHeld ?_
      simp only [Act.put, List.setIfInBounds_toArray, List.set_cons_zero, List.set_cons_succ]
      refine wpAnyH_take (i := 10) (v := .slice (some ⟨b, off, none⟩) j cap) (op_at rfl) (by kernel_rfl) (by kernel_rfl) (by kernel_rfl) (fun _ _ _ h => h) (Or.inl ⟨by rfl, fun w hSw => by go_simp⟩) hHeld ?_
      simp only [Act.put, List.setIfInBounds_toArray, List.set_cons_zero, List.set_cons_succ]
      refine wpAnyH_take (i := 11) (v := .int .i64 k) (op_at rfl) (by kernel_rfl) (by kernel_rfl) (by kernel_rfl) (fun _ _ _ h => h) (Or.inl ⟨by rfl, fun w hSw => by go_simp⟩) hHeld ?_
      simp only [Act.put, List.setIfInBounds_toArray, List.set_cons_zero, List.set_cons_succ]
      refine wpAnyH_take (i := 12) (v := .int .i64 (k - 1)) (op_at rfl) (by kernel_rfl) (by kernel_rfl) (by kernel_rfl) (fun _ _ _ h => h) (Or.inl ⟨by rfl, fun w hSw => by go_simp⟩) hHeld ?_
      simp only [Act.put, List.setIfInBounds_toArray, List.set_cons_zero, List.set_cons_succ]
      refine wpAnyH_take (i := 13) (v := .pointer (some ⟨b, off + (k - 1) * 11, none⟩)) (op_at rfl) (by kernel_rfl) (by kernel_rfl) (by kernel_rfl) (fun _ _ _ h => h) (Or.inl ⟨by rfl, fun w hSw => by go_simp; intro h; exfalso; omega⟩) hHeld ?_
      simp only [Act.put, List.setIfInBounds_toArray, List.set_cons_zero, List.set_cons_succ]
      refine wpAnyH_take (i := 14) (v := .agg (aa ma)) (op_at rfl) (by kernel_rfl) (by kernel_rfl) (by kernel_rfl) (fun _ _ _ h => h) (yld (by rfl) 62 _ rfl L62 b (off + (k - 1) * 11) rfl (aa ma) (aa_size ma) (fun _ h => (h.d.base.args _ _ Hma.out).1)) hHeld ?_
      simp only [Act.put, List.setIfInBounds_toArray, List.set_cons_zero, List.set_cons_succ]
      refine wpAnyH_ready (rs := [15]) (by kernel_rfl) (by simp) ?_
      refine AllReadyH.cons (op_at rfl) (fun K hK => ?_) AllReadyH.nil
      go_simp
      refine (carries_any Y ma HsY.out _ _ HLm.out _ (by rw [HaY.out]; exact (hHeld.d.base.like _ _ _ Hm.out Hma.out).2) (hHeld.d.base.args _ _ Hma.out).2).mono ?_
      rintro e w13 ⟨rfl, hb13⟩
      refine hK.out _ _ (hHeld.then hb13) (fun hHeld' => ?_)
      clear hK K hHeld
      have hHeld := hHeld'
      clear hHeld'
      try simp only [Act.put, List.setIfInBounds_toArray, List.set_cons_zero, List.set_cons_succ]
      refine wpAnyH_take (i := 16) (v := .bool true) (op_at rfl) (by kernel_rfl) (by kernel_rfl) (by kernel_rfl) (fun _ _ _ h => h) (Or.inl ⟨by rfl, fun w hSw => by go_simp⟩) hHeld ?_
      simp only [Act.put, List.setIfInBounds_toArray, List.set_cons_zero, List.set_cons_succ]
      refine wpAnyH_take (i := 17) (v := .bool true) (op_at rfl) (by kernel_rfl) (by kernel_rfl) (by kernel_rfl) (fun _ _ _ h => h) (Or.inl ⟨by rfl, fun w hSw => by go_simp⟩) hHeld ?_
      simp only [Act.put, List.setIfInBounds_toArray, List.set_cons_zero, List.set_cons_succ]
      refine wpAnyH_done (by kernel_rfl) ?_ _
      go_wp2
      go_ret
      exact ⟨rfl, hHeld.d.base.below⟩
end Go.Proofs.Qxb6632277a
