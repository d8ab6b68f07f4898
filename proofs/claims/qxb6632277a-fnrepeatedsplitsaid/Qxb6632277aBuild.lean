/-
  buildRecords, WALKED.
-/
import Derived.Test.Qxb6632277aRep
namespace Go.Proofs.Qxb6632277a
open Go.RowKit
set_option linter.unusedSimpArgs false
set_option linter.unusedVariables false
/-- 'SL', the strings lying in another block than g. -/
def SLn (w : World) (g : Nat) (v : Value) (nl : Bool) (L : List ByteArray) : Prop :=
  ∃ a cap, v = .slice a L.length cap ∧ a.isNone = nl ∧ (L = [] ∨ ∃ b off, a = some ⟨b, off, none⟩ ∧ b ≠ g ∧ ∀ i s, L[i]? = some s → w.cell? ⟨b, off + i, none⟩ = some (.string s))
theorem SLn.sl {w : World} {g : Nat} {v : Value} {nl : Bool} {L : List ByteArray} (h : SLn w g v nl L) : SL w v nl L := by
  obtain ⟨a, cap, rfl, hn, h⟩ := h
  refine ⟨a, cap, rfl, hn, ?_⟩
  rcases h with h | ⟨b, off, rfl, _, q⟩
  · exact .inl h
  · exact .inr ⟨b, off, rfl, q⟩
theorem SLn.kept {w w1 : World} {g : Nat} {v : Value} {nl : Bool} {L : List ByteArray} (h : SLn w g v nl L) (hb : Below w.heap.size w w1) : SLn w1 g v nl L := by
  obtain ⟨a, cap, rfl, hn, h⟩ := h
  refine ⟨a, cap, rfl, hn, ?_⟩
  rcases h with h | ⟨b, off, rfl, hne, q⟩
  · exact .inl h
  · refine .inr ⟨b, off, rfl, hne, fun i s hi => ?_⟩
    have k := q i s hi
    rw [hb.cell (p := ⟨b, off + i, none⟩) (block_lt_of_cell k)]
    exact k
theorem cell_setCells_far (g : Nat) (p : Addr) (hp : g ≠ p.block) : ∀ (cs : List Value) (o : Nat) (w : World), (w.setCells g o cs).cell? p = w.cell? p
  | [], _, _ => rfl
  | v :: cs, o, w => by
    rw [World.setCells, cell_setCells_far g p hp cs (o + 1), World.cell?_setCell_far _ _ _ _ hp]
theorem SLn.setCells {w : World} {g : Nat} {v : Value} {nl : Bool} {L : List ByteArray} (h : SLn w g v nl L) (o : Nat) (cs : List Value) : SLn (w.setCells g o cs) g v nl L := by
  obtain ⟨a, cap, rfl, hn, h⟩ := h
  refine ⟨a, cap, rfl, hn, ?_⟩
  rcases h with h | ⟨b, off, rfl, hne, q⟩
  · exact .inl h
  · refine .inr ⟨b, off, rfl, hne, fun i s hi => ?_⟩
    rw [cell_setCells_far g _ (Ne.symm hne)]
    exact q i s hi
theorem below_setCells {B : Nat} {a : World} {g : Nat} (hg : B ≤ g) : ∀ (cs : List Value) (o : Nat) (w : World), Below B a w → Below B a (w.setCells g o cs)
  | [], _, _, h => h
  | v :: cs, o, w, h => by
    rw [World.setCells]
    exact below_setCells hg cs (o + 1) _ (h.setCell (p := ⟨g, o, none⟩) hg v)
/-- The record r says what the attempt a says; its answers are its own. -/
structure Like (w : World) (g : Nat) (r a : Rec) (nl : Bool) (L : List ByteArray) : Prop where
  eq : r = { a with ans := r.ans, att := .slice none 0 0 }
  sl : SLn w g r.ans nl L
structure SB (w : World) (A : List Rec) (nl : Nat → Bool) (Ls : Nat → List ByteArray) (Rs : List Rec) (w' : World) : Prop where
  there : w'.there w.heap.size 0 (A.length * 36)
  done : ∀ (j : Nat) (r : Rec), Rs[j]? = some r → w'.rangeAt w.heap.size (j * 36) (rs r).toList
  like : ∀ (j : Nat) (r a : Rec), Rs[j]? = some r → A[j]? = some a → Like w' w.heap.size r a (nl j) (Ls j)
  below : Below w.heap.size w w'
theorem there_kept {w w1 : World} {g n : Nat} (h : w.there g 0 n) (hb : Below w.heap.size w w1) : w1.there g 0 n := fun j hj => by
  obtain ⟨v, hv⟩ := Option.isSome_iff_exists.1 (h j hj).1
  have hlt := block_lt_of_cell hv
  rw [hb.cell (p := ⟨g, 0 + j, none⟩) hlt, hb.frozen (p := ⟨g, 0 + j, none⟩) hlt]
  exact h j hj
theorem there_at {w : World} {g n k : Nat} (h : w.there g 0 (n * 36)) (hk : k < n) : w.there g (k * 36) 36 := fun j hj => by
  have := h (k * 36 + j) (by omega)
  rwa [Nat.zero_add] at this
theorem SB.then {w : World} {A : List Rec} {nl : Nat → Bool} {Ls : Nat → List ByteArray} {Rs : List Rec} {w1 w2 : World} (h : SB w A nl Ls Rs w1) (hb : Below w1.heap.size w1 w2) : SB w A nl Ls Rs w2 :=
  ⟨there_kept h.there hb, fun j r hj => range_kept (h.done j r hj) hb, fun j r a hj ha => ⟨(h.like j r a hj ha).eq, (h.like j r a hj ha).sl.kept hb⟩, bthen h.below hb⟩
theorem SB.next {w : World} {A : List Rec} {nl : Nat → Bool} {Ls : Nat → List ByteArray} {Rs : List Rec} {w' : World} (h : SB w A nl Ls Rs w') (hk : Rs.length < A.length) {a : Rec} (ha : A[Rs.length]? = some a) (v : Value)
    (hv : SLn w' w.heap.size v (nl Rs.length) (Ls Rs.length)) : SB w A nl Ls (Rs ++ [{ a with ans := v, att := .slice none 0 0 }]) (w'.setCells w.heap.size (Rs.length * 36) (rs { a with ans := v, att := .slice none 0 0 }).toList) := by
  refine ⟨World.there_setCells h.there _ _ _, fun j r hj => ?_, fun j r a' hj ha' => ?_, below_setCells (Nat.le_refl _) _ _ _ h.below⟩
  · by_cases e : j < Rs.length
    · rw [List.getElem?_append_left e] at hj
      refine World.rangeAt_setCells_apart (h.done j r hj) _ _ _ (.inr ?_)
      simp [rs, rl]
      omega
    · have e2 : j = Rs.length := by
        have := (List.getElem?_eq_some_iff.1 hj).1
        simp at this
        omega
      subst e2
      rw [List.getElem?_append_right (by omega)] at hj
      simp at hj
      subst hj
      refine World.rangeAt_setCells_same _ _ _ _ ?_
      exact there_at h.there hk
  · by_cases e : j < Rs.length
    · rw [List.getElem?_append_left e] at hj
      have := h.like j r a' hj ha'
      exact ⟨this.eq, this.sl.setCells _ _⟩
    · have e2 : j = Rs.length := by
        have := (List.getElem?_eq_some_iff.1 hj).1
        simp at this
        omega
      subst e2
      rw [List.getElem?_append_right (by omega)] at hj
      simp at hj
      have e3 := ha.symm.trans ha'
      simp at e3
      subst e3
      subst hj
      exact ⟨rfl, hv.setCells _ _⟩
theorem run_build55 (a : Rec) (v : Value) (w : World) (hv : v.oneCell' = true) :
    (Instr.build 55 #[(0, .string a.inp), (1, .int .i64 a.line), (20, .int .i64 a.st), (21, .int .i64 a.du), (11, .bool a.ok), (12, .string a.fop), (13, .string a.fail), (14, .string a.err), (16, .string a.rc), (15, .int .i64 a.http), (17, v)]).run Try.prog w = .ok (.agg (rs { a with ans := v, att := .slice none 0 0 })) w := by
  refine run_build w 55 _ (rs { a with ans := v, att := .slice none 0 0 }) ?_
  cases v <;> first | (cases hv; done) | (show _ = _; kernel_rfl)
theorem wpList_bd {ops : Array Oper} {rest : List Oper} {o : Oper} {a : Act} {w : World} {Q : Exit → Act → World → Prop} (hgd : o.guard = none) (t : TypeId) (parts : List (Nat × Operand)) (ho : o.op = .build t parts.toArray) (vs : List (Nat × Value)) (c : Array Value)
    (hp : (parts.map fun x => (x.1, a.eval x.2)) = vs) (hrun : ∀ w, (Instr.build t vs.toArray).run Try.prog w = .ok (.agg c) w)
    (h : wpList Try.prog ops Q rest (a.put o.dst (.agg c)) w) : wpList Try.prog ops Q (o :: rest) a w :=
  wpList_plain hgd fun K hK => by
    unfold Oper.wp execOp
    have hp' : (parts.toArray.map fun x => (x.1, a.eval x.2)) = vs.toArray := by rw [← hp]; simp
    simp only [ho, hp', Sem.run_bind, hrun, Result.andThen_ok, Sem.run_pure]
    exact hK _ _ h
theorem wpList_sm {ops : Array Oper} {rest : List Oper} {o : Oper} {a : Act} {w : World} {Q : Exit → Act → World → Prop} (hgd : o.guard = none) (x y : Operand) (ho : o.op = .store 55 x y)
    (b off : Nat) (c : Array Value) (hx : a.eval x = .pointer (some ⟨b, off, none⟩)) (hy : a.eval y = .agg c) (hT : w.there b off 36) (hc : c.size = 36) (h1 : c.all (·.oneCell') = true)
    (h : wpList Try.prog ops Q rest (a.put o.dst undef) (w.setCells b off c.toList)) : wpList Try.prog ops Q (o :: rest) a w :=
  wpList_store_mid hgd 55 x y ho b off c hx hy (by rw [hc]; exact hT) (by rw [hc]; exact Try.size55) h1 h
/-! ### The laws once more, the operation written out in what they say: where it is another, the walk passes them by at once. -/
section
variable {ops : Array Oper} {rest : List Oper} {a : Act} {w : World} {Q : Exit → Act → World → Prop} {d : Option Tmp} {ty : TypeId} {pos : String} {af : Array Edge}
theorem lm' (t : TypeId) (x : Operand) {n : Nat} (ht : Lng t n) (b off : Nat) (c : Array Value) (hx : a.eval x = .pointer (some ⟨b, off, none⟩)) (hr : w.rangeAt b off c.toList) (hn : c.size = n)
    (h : wpList Try.prog ops Q rest (a.put d (.agg c)) w) : wpList Try.prog ops Q (Oper.mk d (.load t x) ty pos af none :: rest) a w := wpList_lm rfl t x rfl ht b off hx c hr hn h
theorem al' (t : TypeId) (z : Array Value) (hz : ∀ w, (zeroValue t).run Try.prog w = .ok (.agg z) w) (h : wpList Try.prog ops Q rest (a.put d (.pointer (some ⟨w.heap.size, 0, none⟩))) (w.alloc (.cells z t))) :
    wpList Try.prog ops Q (Oper.mk d (.alloc t) ty pos af none :: rest) a w := wpList_al rfl t rfl z hz h
theorem sn' (t : TypeId) (x y : Operand) {n : Nat} (ht : Lng t n) (z c : Array Value) (hx : a.eval x = .pointer (some ⟨w.heap.size, 0, none⟩)) (hy : a.eval y = .agg c) (hz : z.size = n) (hc : c.size = n) (h1 : c.all (·.oneCell') = true)
    (h : wpList Try.prog ops Q rest (a.put d undef) (w.alloc (.cells c t))) : wpList Try.prog ops Q (Oper.mk d (.store t x y) ty pos af none :: rest) a (w.alloc (.cells z t)) := wpList_sn rfl t x y rfl ht z c hx hy hz hc h1 h
theorem bd' (t : TypeId) (parts : List (Nat × Operand)) (vs : List (Nat × Value)) (c : Array Value) (hp : (parts.map fun x => (x.1, a.eval x.2)) = vs) (hrun : ∀ w, (Instr.build t vs.toArray).run Try.prog w = .ok (.agg c) w)
    (h : wpList Try.prog ops Q rest (a.put d (.agg c)) w) : wpList Try.prog ops Q (Oper.mk d (.build t parts.toArray) ty pos af none :: rest) a w := wpList_bd rfl t parts rfl vs c hp hrun h
theorem sm' (x y : Operand) (b off : Nat) (c : Array Value) (hx : a.eval x = .pointer (some ⟨b, off, none⟩)) (hy : a.eval y = .agg c) (hT : w.there b off 36) (hc : c.size = 36) (h1 : c.all (·.oneCell') = true)
    (h : wpList Try.prog ops Q rest (a.put d undef) (w.setCells b off c.toList)) : wpList Try.prog ops Q (Oper.mk d (.store 55 x y) ty pos af none :: rest) a w := wpList_sm rfl x y rfl b off c hx hy hT hc h1 h
end
theorem Try.info55 : (Try.prog.info? 55).map (fun i => (i.zero, i.size, i.bytes)) = some (some (.agg (rs r0)), 36, 552) := by kernel_rfl
theorem Try.info9 : (Try.prog.info? 9).map (fun i => (i.zero, i.size, i.bytes)) = some (some (.string ⟨#[]⟩), 1, 16) := by kernel_rfl
theorem there_of_own {w : World} {base e g n m : Nat} {xs : List Value} (h : w.ownsRow base e m (.slice (some ⟨g, 0, none⟩) n n) n xs) : w.there g 0 (n * m) := by
  rcases h.2 with ⟨hv, _⟩ | ⟨g', cap, cur, hv, _, hg, _, _, hsz, _⟩
  · simp at hv
  · simp at hv
    obtain ⟨rfl, rfl⟩ := hv
    intro j hj
    rw [Nat.zero_add]
    refine ⟨?_, frozen_of_row w g j _ _ hg⟩
    rw [cell_of_row w g j _ _ _ hg, Array.getElem?_eq_getElem (by omega)]
    rfl
/-- The loop over the strings. -/
structure SJ (w : World) (g : Nat) (L : List ByteArray) (j : Nat) (w' : World) : Prop where
  there : w'.there g 0 L.length
  done : ∀ (i : Nat) (s : ByteArray), i < j → L[i]? = some s → w'.cell? ⟨g, 0 + i, none⟩ = some (.string s)
  below : Below g w w'
theorem SJ.next {w : World} {g : Nat} {L : List ByteArray} {j : Nat} {w' : World} (h : SJ w g L j w') {s : ByteArray} (hs : L[j]? = some s) : SJ w g L (j + 1) (w'.setCell ⟨g, j, none⟩ (.string s)) := by
  have e0 : w'.setCell ⟨g, j, none⟩ (.string s) = w'.setCells g j [.string s] := rfl
  refine ⟨?_, fun i t hi ht => ?_, h.below.setCell (Nat.le_refl _) _⟩
  · rw [e0]; exact World.there_setCells h.there _ _ _
  · by_cases e : i = j
    · subst e
      have := hs.symm.trans ht
      simp at this
      subst this
      have hl := (List.getElem?_eq_some_iff.1 hs).1
      have := World.rangeAt_setCells_same w' g i [.string s] (fun q hq => by
        have := h.there (i + q) (by simp at hq; omega)
        rwa [Nat.zero_add] at this)
      rw [e0, Nat.zero_add]
      exact this 0 _ rfl
    · have h0 := h.done i t (by omega) ht
      rw [World.cell?_setCell_other _ _ _ _ (by simp <;> omega)]
      exact h0

set_option maxHeartbeats 4000000 in
theorem build_any (b off cap : Nat) (A : List Rec) (nl : Nat → Bool) (Ls : Nat → List ByteArray) (hlen : A.length ≤ 2 ^ 20) (hpos : 0 < A.length) (hLs : ∀ j, j < A.length → (Ls j).length ≤ 2 ^ 20) (w : World)
    (hR : ∀ (i : Nat) (a : Rec), A[i]? = some a → w.rangeAt b (off + i * 11) (aa a).toList ∧ SL w a.ans (nl i) (Ls i)) :
    Calls Try.prog 7 #[.slice (some ⟨b, off, none⟩) A.length cap] w fun e w' => (∃ Rs, e = .returned (.slice (some ⟨w.heap.size, 0, none⟩) A.length A.length) ∧ Rs.length = A.length ∧ SB w A nl Ls Rs w') ∧ Below w.heap.size w w' := by
  obtain ⟨i0, hi, hz0, hz1, hz2⟩ := info_parts Try.info55
  obtain ⟨i9, hj, hj0, hj1, hj2⟩ := info_parts Try.info9
  have s0 := aa_size r0
  have hAI : (A.length : Int) ≤ 1048576 := by omega
  go_enter Try.func7, Try.ntmps7
  go_wp2_with (first | (at_make; refine wpList_make_full _ rfl _ _ 25 rfl w.heap.size 55 i0 (.agg (rs r0)) 36 Try.underlying25 hi hz0 hz1 .i64 .i64 _ _ A.length rfl rfl rfl rfl (by rw [hz2]; omega) (by unfold maxLen; omega) (Nat.le_refl _) ?_))
  intro w1 hown hg
  have hSB : SB w A nl Ls [] w1 := ⟨there_of_own hown, fun j r hj => by simp at hj, fun j r a hj => by simp at hj, ⟨hg.os, hg.tape, hg.output, hg.size, fun k hk => hg.block k hk (by simp)⟩⟩
  clear hown hg
  go_wp2
  go_loopw [4] (fun i wr => ∃ Rs : List Rec, Rs.length ≤ A.length ∧ i = .int .i64 (Rs.length : Int) ∧ SB w A nl Ls Rs wr) (fun i _ => A.length - (intOf i).toNat)
  case atStart => exact ⟨[], Nat.zero_le _, rfl, hSB⟩
  case round =>
    clear hSB
    obtain ⟨Rs, hk, rfl, hSB⟩ := hrel
    by_cases hlt : Rs.length < A.length
    · obtain ⟨a, ha⟩ : ∃ a, A[Rs.length]? = some a := ⟨_, List.getElem?_eq_getElem hlt⟩
      obtain ⟨hrg0, hsl0⟩ := hR _ a ha
      have hrg := range_kept hrg0 hSB.below
      have hsl := hsl0.kept hSB.below
      clear hrg0 hsl0
      have oa : (aa a).all (·.oneCell') = true := by
        simp [aa, al, Value.oneCell']
        exact hsl.one
      obtain ⟨a1, cp, hv, hn, hcs⟩ := hsl
      have hL := hLs _ hlt
      have hkI : (Rs.length : Int) < (A.length : Int) := by omega
      have hnil := fun (wx : World) => run_neq_slice_nil_any (P := Try.prog) wx 46 9 a1 (Ls Rs.length).length cp 0 0 Try.underlying46
      have p0 := aa0 a; have p1 := aa1 a; have p2 := aa2 a; have p3 := aa3 a; have p4 := aa4 a; have p5 := aa5 a; have p6 := aa6 a; have p7 := aa7 a; have p8 := aa8 a; have p9 := aa9 a; have p10 := aa10 a
      rw [hv] at p10
      have sc : Hid _ := aa_size a
      have HB3 : Hid (SB w A nl Ls Rs (wr.alloc (.cells (aa a) 62))) := hSB.then ((Below.refl _ _).alloc (Nat.le_refl _) _)
      have hgw : w.heap.size < wr.heap.size := by
        have := (hSB.there 0 (by omega)).1
        obtain ⟨v, hv⟩ := Option.isSome_iff_exists.1 this
        exact block_lt_of_cell hv
      cases a1 with
      | none =>
        have hL0 : Ls Rs.length = [] := by
          rcases hcs with h | ⟨b, off, e, _⟩
          · exact h
          · cases e
        have hbuild : Hid _ := fun w => run_build55 a (.slice none 0 0) w rfl
        have o4 := rs_one (r := { a with ans := .slice none 0 0, att := .slice none 0 0 }) ⟨rfl, rfl⟩
        have hnx : Hid (SB w A nl Ls (Rs ++ [{ a with ans := .slice none 0 0, att := .slice none 0 0 }]) ((wr.alloc (.cells (aa a) 62)).setCells w.heap.size (Rs.length * 36) (rs { a with ans := .slice none 0 0, att := .slice none 0 0 }).toList)) := HB3.out.next hlt ha (.slice none 0 0) ⟨none, 0, by rw [hL0]; rfl, hn, .inl hL0⟩
        have hth := there_at HB3.out.there hlt
        simp only [Option.isNone_none, Bool.not_true] at hnil
        have HT : Hid (World.there (wr.alloc (.cells (aa a) 62)) w.heap.size (Rs.length * 36) 36) := hth
        have HG : Hid (World.rangeAt wr b (off + Rs.length * 11) (aa a).toList) := hrg
        have HO : Hid _ := o4
        have HOA : Hid _ := oa
        have HK : Hid (Rs.length < A.length) := hlt
        have hN0 : (Ls Rs.length).length = 0 := by rw [hL0]; rfl
        rw [hN0] at hnil p10
        clear hSB hv hcs ha hn hth hrg hR hLs hL hlen hpos hL0 o4 hN0 hgw hj hj0 hj1 hj2 hi hz0 hz1 hz2 oa hk
        generalize ({ a with ans := .slice none 0 0, att := .slice none 0 0 } : Rec) = R at *
        generalize aa a = c at *
        go_wp2_with (first | (with_reducible refine al' 62 (aa r0) z62 ?_) | ((with_reducible refine lm' 62 _ L62 b (off + Rs.length * 11) c ?_ HG.out sc.out ?_); rfl) | ((with_reducible refine sn' 62 _ _ L62 (aa r0) c ?_ ?_ s0 sc.out HOA.out ?_); rfl; rfl) | ((with_reducible refine bd' 55 [(0, .tmp 46), (1, .tmp 48), (20, .tmp 50), (21, .tmp 52), (11, .tmp 54), (12, .tmp 56), (13, .tmp 58), (14, .tmp 60), (16, .tmp 62), (15, .tmp 64), (17, .tmp 65)] _ _ ?_ hbuild.out ?_); rfl) | ((with_reducible refine sm' _ _ w.heap.size (Rs.length * 36) _ ?_ ?_ HT.out (rs_size R) HO.out ?_); rfl; rfl; generalize World.setCells _ w.heap.size (Rs.length * 36) (rs R).toList = X at *))
        go_roundw
        case rel => exact ⟨_, by simp; omega, by simp, hnx.out⟩
        case measure => simp [intOf] <;> omega
      | some x =>
        obtain ⟨wo, rfl⟩ : ∃ wo, wo = wr := ⟨_, rfl⟩
        obtain ⟨L, hLe⟩ : ∃ L, L = Ls Rs.length := ⟨_, rfl⟩
        rw [← hLe] at hcs hnil p10 hL
        simp only [Option.isNone_some, Bool.not_false] at hnil
        have HG : Hid (World.rangeAt wo b (off + Rs.length * 11) (aa a).toList) := hrg
        have HOA : Hid _ := oa
        have HAt : Hid (At (wo.alloc (.cells (aa a) 62)) 62 wo.heap.size (aa a)) := At.new wo 62 _
        have q0 : Hid _ := p0; have q1 : Hid _ := p1; have q2 : Hid _ := p2; have q3 : Hid _ := p3; have q4 : Hid _ := p4; have q5 : Hid _ := p5; have q6 : Hid _ := p6; have q7 : Hid _ := p7; have q8 : Hid _ := p8; have q9 : Hid _ := p9; have q10 : Hid _ := p10
        have HC : Hid (∀ w2 : World, Below (wo.heap.size + 1) (wo.alloc (.cells (aa a) 62)) w2 → ∀ (j : Nat) (s : ByteArray), L[j]? = some s → ∃ b1 o1, x = ⟨b1, o1, none⟩ ∧ w2.cell? ⟨b1, o1 + j, none⟩ = some (.string s)) := by
          intro w2 hb2 j s hs
          rcases hcs with h | ⟨b1, o1, e, q⟩
          · rw [h] at hs; simp at hs
          · simp at e
            refine ⟨b1, o1, e, ?_⟩
            have k := q j s hs
            have hlt' : b1 < wo.heap.size := block_lt_of_cell k
            rw [hb2.cell (p := ⟨b1, o1 + j, none⟩) (show b1 < wo.heap.size + 1 by omega), World.cell?_alloc_lt _ _ _ hlt']
            exact k
        have HN : Hid ((some x).isNone = nl Rs.length) := hn
        have HAk : Hid (A[Rs.length]? = some a) := ha
        have hLI : (L.length : Int) ≤ 1048576 := by omega
        have HLe : Hid (L = Ls Rs.length) := hLe
        have HGW : Hid (w.heap.size < wo.heap.size) := hgw
        clear hSB hv hcs ha hn hrg hR hLs hlen hpos oa hk hLe hgw
        generalize hcc : aa a = c at *
        have HCC : Hid _ := hcc
        clear hcc
        go_wp2_with (first | (with_reducible refine al' 62 (aa r0) z62 ?_) | ((with_reducible refine lm' 62 _ L62 b (off + Rs.length * 11) c ?_ HG.out sc.out ?_); rfl) | ((with_reducible refine sn' 62 _ _ L62 (aa r0) c ?_ ?_ s0 sc.out HOA.out ?_); rfl; rfl) | (at_make; refine wpList_make_full _ rfl _ _ 46 rfl (wo.heap.size + 1) 9 i9 (.string ⟨#[]⟩) 1 Try.underlying46 hj hj0 hj1 .i64 .i64 _ _ L.length rfl rfl rfl rfl (by rw [hj2]; omega) (by unfold maxLen; omega) (by simp) ?_))
        intro w5 hown hg
        have hSJ : SJ (wo.alloc (.cells c 62)) (wo.heap.size + 1) L 0 w5 := ⟨by have := there_of_own (m := 1) (n := L.length) (g := wo.heap.size + 1) (by simpa using hown); simpa using this, fun i s hi => by omega, ⟨hg.os, hg.tape, hg.output, hg.size, fun k hk => hg.block k (by simpa using hk) (by simp)⟩⟩
        clear hown hg hnil p0 p1 p2 p3 p4 p5 p6 p7 p8 p9 p10
        have hsz : (wo.alloc (.cells c 62)).heap.size = wo.heap.size + 1 := by simp
        go_wp2
        go_loopw [7] (fun i w2 => ∃ j : Nat, j ≤ L.length ∧ i = .int .i64 (j : Int) ∧ SJ (wo.alloc (.cells c 62)) (wo.heap.size + 1) L j w2) (fun i _ => L.length - (intOf i).toNat)
        case atStart => exact ⟨0, Nat.zero_le _, rfl, hSJ⟩
        case round =>
          clear hSJ
          obtain ⟨j, hjl, rfl, hSJ⟩ := hrel
          have hAt2 := HAt.out.below hSJ.below (by omega)
          by_cases hjt : j < L.length
          · obtain ⟨s, hs⟩ : ∃ s, L[j]? = some s := ⟨_, List.getElem?_eq_getElem hjt⟩
            obtain ⟨b1, o1, rfl, hcs⟩ := HC.out _ hSJ.below j s hs
            have hnx := hSJ.next hs
            have hc10 := hAt2.cell 10 q10.out
            have hth := hSJ.there j hjt
            rw [Nat.zero_add] at hth
            obtain ⟨u, hu⟩ := Option.isSome_iff_exists.1 hth.1
            have hfz := hth.2
            have hjI : (j : Int) < (L.length : Int) := by omega
            clear hs hth HC hAt2 hSJ
            have HNX : Hid _ := hnx
            clear hnx
            go_wp2
            go_roundw
            case rel => exact ⟨j + 1, by omega, by go_num, HNX.out⟩
            case measure => simp [intOf] <;> omega
          · obtain rfl : j = L.length := by omega
            have HB4 : SB w A nl Ls Rs wr := HB3.out.then (by rw [hsz]; exact hSJ.below)
            have c0 := hAt2.cell 0 q0.out; have c1 := hAt2.cell 1 q1.out; have c2 := hAt2.cell 2 q2.out; have c3 := hAt2.cell 3 q3.out; have c4 := hAt2.cell 4 q4.out; have c5 := hAt2.cell 5 q5.out; have c6 := hAt2.cell 6 q6.out; have c7 := hAt2.cell 7 q7.out; have c8 := hAt2.cell 8 q8.out; have c9 := hAt2.cell 9 q9.out; have c10 := hAt2.cell 10 q10.out
            have hbuild : Hid _ := fun w => run_build55 a (.slice (some ⟨wo.heap.size + 1, 0, none⟩) L.length L.length) w rfl
            have HO : Hid _ := rs_one (r := { a with ans := .slice (some ⟨wo.heap.size + 1, 0, none⟩) L.length L.length, att := .slice none 0 0 }) ⟨rfl, rfl⟩
            have hgw := HGW.out
            have hsl : SLn wr w.heap.size (.slice (some ⟨wo.heap.size + 1, 0, none⟩) L.length L.length) (nl Rs.length) (Ls Rs.length) := by
              rw [← HLe.out]
              exact ⟨_, _, rfl, HN.out, .inr ⟨_, _, rfl, by omega, fun i s hi => hSJ.done i s (List.getElem?_eq_some_iff.1 hi).1 hi⟩⟩
            have hnx : Hid (SB w A nl Ls (Rs ++ [{ a with ans := .slice (some ⟨wo.heap.size + 1, 0, none⟩) L.length L.length, att := .slice none 0 0 }]) (wr.setCells w.heap.size (Rs.length * 36) (rs { a with ans := .slice (some ⟨wo.heap.size + 1, 0, none⟩) L.length L.length, att := .slice none 0 0 }).toList)) := HB4.next hlt HAk.out _ hsl
            have HT : Hid (World.there wr w.heap.size (Rs.length * 36) 36) := there_at HB4.there hlt
            clear HB4 hsl hAt2 hSJ hgw HC hj hj0 hj1 hj2 hi hz0 hz1 hz2 hL
            generalize ({ a with ans := .slice (some ⟨wo.heap.size + 1, 0, none⟩) L.length L.length, att := .slice none 0 0 } : Rec) = R at *
            go_wp2_with (first | ((with_reducible refine bd' 55 [(0, .tmp 46), (1, .tmp 48), (20, .tmp 50), (21, .tmp 52), (11, .tmp 54), (12, .tmp 56), (13, .tmp 58), (14, .tmp 60), (16, .tmp 62), (15, .tmp 64), (17, .tmp 65)] _ _ ?_ hbuild.out ?_); rfl) | ((with_reducible refine sm' _ _ w.heap.size (Rs.length * 36) _ ?_ ?_ HT.out (rs_size R) HO.out ?_); rfl; rfl; generalize World.setCells _ w.heap.size (Rs.length * 36) (rs R).toList = X at *))
            go_roundw
            case rel => exact ⟨_, by simp; omega, by simp, hnx.out⟩
            case measure => simp [intOf] <;> omega
    · have hfin : Rs.length = A.length := by omega
      have hkI : ¬ (Rs.length : Int) < (A.length : Int) := by omega
      go_wp2
      go_ret
      exact ⟨⟨rfl, Rs, hfin, hSB⟩, hSB.below⟩
end Go.Proofs.Qxb6632277a
