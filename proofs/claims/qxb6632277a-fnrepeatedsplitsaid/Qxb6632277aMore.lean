/-
  Small laws for the two walks: '==' on verdicts and attempts, a slice of one record, sums that wrap.
-/
import Derived.Test.Qxb6632277aGuards
import Derived.Test.Qxb6632277aBig
namespace Go.Proofs.Qxb6632277a
open Go.RowKit
set_option linter.unusedSimpArgs false
set_option linter.unusedVariables false
def vs (r : Rec) : Array Value := #[.bool r.ok, .string r.fop, .string r.fail]
theorem Try.guard58 : Try.prog.eqGuardType Try.prog.depth 58 = false := by kernel_rfl
theorem Try.guard60 : Try.prog.eqGuardType Try.prog.depth 60 = false := by kernel_rfl
theorem Try.stood58 : Try.prog.stoodInHeld 58 = false := by kernel_rfl
theorem Try.stood60 : Try.prog.stoodInHeld 60 = false := by kernel_rfl
theorem eq58 (d : Nat) (r : Rec) (w : World) : (Op.equalIn (d + 2) 58 (.agg (vs r)) (.agg (vs r))).run Try.prog w = .ok true w := by
  unfold vs
  rw [run_equalIn_agg _ _ _ _ _ (by kernel_rfl) Try.stood58]
  go_simp
theorem eq60 (d : Nat) (r : Rec) (w : World) : (Op.equalIn (d + 3) 60 (.agg (ts r)) (.agg (ts r))).run Try.prog w = .ok true w := by
  unfold ts tl
  rw [run_equalIn_agg _ _ _ _ _ (by kernel_rfl) Try.stood60]
  go_simp
theorem neq58 (r : Rec) (w : World) : (binOp .neq 58 (.agg (vs r)) (.agg (vs r))).run Try.prog w = .ok (.bool false) w := by
  rw [run_neq_struct, show (10000 : Nat) = 9998 + 2 from rfl, eq58]; rfl
theorem neq60 (r : Rec) (w : World) : (binOp .neq 60 (.agg (ts r)) (.agg (ts r))).run Try.prog w = .ok (.bool false) w := by
  rw [run_neq_struct, show (10000 : Nat) = 9997 + 3 from rfl, eq60]; rfl
theorem wrap_a (x y : Int) : wrap64 (x + wrap64 (wrap64 y - x)) = wrap64 y := by
  unfold wrap64
  omega
theorem wrap_b (x y : Int) : wrap64 (wrap64 (x + wrap64 (wrap64 y - x)) - x) = wrap64 (wrap64 y - x) := by
  rw [wrap_a]
theorem rep_rep (f l : Rec) (v v2 : Value) : rep (rep f l v) (rep f l v) v2 = { rep f l v with att := v2 } := by
  simp only [rep]
  rw [wrap_b]
theorem repeated_n (b off cap n : Nat) (Rs : List Rec) (f l : Rec) (hn : Rs.length = n) (hf : Rs[0]? = some f) (hl : Rs[n - 1]? = some l) (hlen : n ≤ 2 ^ 20) (hok : ∀ (i : Nat) (r : Rec), Rs[i]? = some r → Ok r) (w : World) (hR : Recs w b off Rs) :
    Calls Try.prog 8 #[.slice (some ⟨b, off, none⟩) n cap] w fun e w' => (∃ g, e = .returned (.agg (rs (rep f l (.slice (some ⟨g, 0, none⟩) n n)))) ∧ w.heap.size ≤ g ∧ Atts w' g Rs) ∧ Below w.heap.size w w' := by
  subst hn
  exact repeated_any b off cap Rs f l hf hl hlen hok w hR
section
variable {ops : Array Oper} {rest : List Oper} {a : Act} {w : World} {Q : Exit → Act → World → Prop} {d : Option Tmp} {ty : TypeId} {pos : String} {af : Array Edge}
theorem bs' (x : Operand) (r : Rec) (h1 : ∃ a l c, r.ans = .slice a l c) (h2 : ∃ a l c, r.att = .slice a l c) (hx : a.eval x = .agg (rs r))
    (h : wpList Try.prog ops Q rest (a.put d (.slice (some ⟨w.heap.size, 0, none⟩) 1 1)) (w.alloc (.cells (rs r) 55))) : wpList Try.prog ops Q (Oper.mk d (.buildSlice 25 1 #[(0, x)]) ty pos af none :: rest) a w := by
  obtain ⟨i0, hi, hz0, hz1, hz2⟩ := info_parts Try.info55
  refine wpList_buildSlice rfl 25 55 1 _ rfl (rs r) i0 (.agg (rs r0)) Try.underlying25 hi hz0 (by rw [hz1]; decide) (by rw [hz1]; decide) ?_ h
  rw [hz1]
  simp [hx]
  obtain ⟨i, ln, ok, fo, fa, er, ht, rc, an, st, du, at_⟩ := r
  obtain ⟨a1, l1, c1, rfl⟩ := h1
  obtain ⟨a2, l2, c2, rfl⟩ := h2
  show _ = _
  kernel_rfl
end
theorem SL.slice {w : World} {v : Value} {nl : Bool} {L : List ByteArray} (h : SL w v nl L) : ∃ a l c, v = .slice a l c := by
  obtain ⟨a, c, rfl, _⟩ := h
  exact ⟨a, _, c, rfl⟩
theorem z60 : ∀ w, (zeroValue 60).run Try.prog w = .ok (.agg t0) w := (zero_of_info (show (Try.prog.info? 60).map (fun i => (i.zero, i.size)) = some (some (.agg t0), 5) by kernel_rfl)).1
theorem range_pre {w : World} {b o : Nat} {xs ys : List Value} (h : w.rangeAt b o (xs ++ ys)) : w.rangeAt b o xs := fun j v hv => h j v (by rw [List.getElem?_append_left (List.getElem?_eq_some_iff.1 hv).1]; exact hv)
theorem ts0 (r : Rec) : (ts r)[3]? = some (.int .i64 r.st) := rfl
theorem ts4 (r : Rec) : (ts r)[4]? = some (.int .i64 r.du) := rfl
theorem bytes11_n (b off cap n : Nat) (A : List Rec) (nl : Nat → Bool) (Ls : Nat → List ByteArray) (hn : A.length = n) (hm : n ≤ maxLen) (w : World)
    (hR : ∀ (i : Nat) (a : Rec), A[i]? = some a → w.rangeAt b (off + i * 11) (aa a).toList ∧ SL w a.ans (nl i) (Ls i)) :
    Calls Try.prog 11 #[.slice (some ⟨b, off, none⟩) n cap] w fun e w' => BOut A Ls e ∧ w' = w := by
  subst hn
  exact bytes11 b off cap A nl Ls hm w hR
theorem bytes5_n (b off cap n : Nat) (kk : Int) (A : List Rec) (nl : Nat → Bool) (Ls : Nat → List ByteArray) (hn : A.length = n) (hm : n ≤ maxLen) (w : World)
    (hR : ∀ (i : Nat) (a : Rec), A[i]? = some a → w.rangeAt b (off + i * 11) (aa a).toList ∧ SL w a.ans (nl i) (Ls i)) :
    Calls Try.prog 5 #[.slice (some ⟨b, off, none⟩) n cap, .int .i64 kk] w fun e w' => BOut A Ls e ∧ w' = w := by
  subst hn
  exact bytes5 b off cap kk A nl Ls hm w hR
theorem big_n (b off cap n : Nat) (A : List Rec) (nl : Nat → Bool) (Ls : Nat → List ByteArray) (hn : A.length = n) (hm : n ≤ maxLen) (w : World)
    (hR : ∀ (i : Nat) (a : Rec), A[i]? = some a → w.rangeAt b (off + i * 11) (aa a).toList ∧ SL w a.ans (nl i) (Ls i)) :
    Calls Try.prog 6 #[.slice (some ⟨b, off, none⟩) n cap] w fun e w' => IsB e ∧ Below w.heap.size w w' := by
  subst hn
  exact big_any b off cap A nl Ls hm w hR
theorem build_n (b off cap n : Nat) (A : List Rec) (nl : Nat → Bool) (Ls : Nat → List ByteArray) (hn : A.length = n) (hlen : n ≤ 2 ^ 20) (hpos : 0 < n) (hLs : ∀ j, j < n → (Ls j).length ≤ 2 ^ 20) (w : World)
    (hR : ∀ (i : Nat) (a : Rec), A[i]? = some a → w.rangeAt b (off + i * 11) (aa a).toList ∧ SL w a.ans (nl i) (Ls i)) :
    Calls Try.prog 7 #[.slice (some ⟨b, off, none⟩) n cap] w fun e w' => (∃ Rs, e = .returned (.slice (some ⟨w.heap.size, 0, none⟩) n n) ∧ Rs.length = n ∧ SB w A nl Ls Rs w') ∧ Below w.heap.size w w' := by
  subst hn
  exact build_any b off cap A nl Ls hlen hpos hLs w hR
theorem run_neq58 {d : Option Tmp} {x y : Operand} {ty : TypeId} {pos : String} {af : Array Edge} {gd : Option (Nat × Bool)} {a : Act} {l : Rec} {w : World} (hx : a.eval x = .agg (vs l)) (hy : a.eval y = .agg (vs l))  :
    (execOp a.eval (Oper.mk d (.binOp .neq 58 x y 58) ty pos af gd)).run Try.prog w = .ok (.value (.bool false)) w := by
  simp only [execOp, hx, hy, Sem.run_bind, run_eqGuard_agg _ _ _ _ _ _ _ Try.guard58, Result.andThen_ok, neq58, Sem.run_pure]
section
variable {ops : Array Oper} {rest : List Oper} {a : Act} {w : World} {Q : Exit → Act → World → Prop} {d : Option Tmp} {ty : TypeId} {pos : String} {af : Array Edge}
/-- A whole load behind a guard that lets it by. -/
theorem lmg' {gd : Option (Nat × Bool)} (t : TypeId) (x : Operand) {n : Nat} (ht : Lng t n) (b off : Nat) (c : Array Value) (hw : Region.wanted (Oper.mk d (.load t x) ty pos af gd) (yielded ops a.tmps) = true) (hx : a.eval x = .pointer (some ⟨b, off, none⟩)) (hr : w.rangeAt b off c.toList) (hn : c.size = n)
    (h : wpList Try.prog ops Q rest (a.put d (.agg c)) w) : wpList Try.prog ops Q (Oper.mk d (.load t x) ty pos af gd :: rest) a w :=
  wpList_step fun K hK => by
    rw [if_pos hw]
    unfold Oper.wp execOp
    simp only [hx, Sem.run_bind, run_lm hr ht hn, Result.andThen_ok, Sem.run_pure]
    exact hK _ _ h
end
theorem ts_size (r : Rec) : (ts r).size = 5 := rfl
theorem alb (W : World) (o : Obj) : Below W.heap.size W (W.alloc o) := (Below.refl _ _).alloc (Nat.le_refl _) o
end Go.Proofs.Qxb6632277a
