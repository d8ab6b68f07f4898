/-
  IDENTIFIERS IN MEMORY: a block of the call's own that holds sixteen bytes ('At w t g n': block g, made for type t, holds the identifier n), and what the walk does to such blocks: made, read whole, written whole, one byte written.
-/
import Derived.Test.Qxb6631297aRows
import Derived.Test.Qxb6631297aPlain
import Derived.WalkKit
import Derived.WalkSpells
import Derived.WalkLawsBesides
import Derived.Deep.QuietTactic
import Derived.BigQuiet
import Derived.Deep.WholeRow
namespace Go.Proofs.Qxb6631297a
open Go.RowKit
theorem Try.size22 : (Try.prog.info? 22).map (·.size) = some 16 := by kernel_rfl
theorem Try.size27 : (Try.prog.info? 27).map (·.size) = some 16 := by kernel_rfl
theorem Try.zero22 : (Try.prog.info? 22).map (fun i => (i.zero, i.size)) = some (some (.agg (bs 0)), 16) := by kernel_rfl
theorem Try.zero27 : (Try.prog.info? 27).map (fun i => (i.zero, i.size)) = some (some (.agg (bs 0)), 16) := by kernel_rfl
/-- The two types of sixteen bytes: '[16]byte' and 'nodeid.ID'. -/
def IdT (t : TypeId) : Prop := t = 22 ∨ t = 27
theorem IdT.a : IdT 22 := .inl rfl
theorem IdT.b : IdT 27 := .inr rfl
theorem IdT.size {t : TypeId} (h : IdT t) (n : Nat) : (Try.prog.info? t).map (·.size) = some (bs n).size := by
  rw [bs_size]; rcases h with rfl | rfl
  · exact Try.size22
  · exact Try.size27
theorem IdT.under {t : TypeId} (h : IdT t) : Try.prog.underlying t = some (.array 16 5) := by
  rcases h with rfl | rfl
  · exact Try.underlying22
  · exact Try.underlying27
theorem IdT.zero {t : TypeId} (h : IdT t) : ∀ w, (zeroValue t).run Try.prog w = .ok (.agg (bs 0)) w := by
  rcases h with rfl | rfl
  · exact (zero_of_info Try.zero22).1
  · exact (zero_of_info Try.zero27).1

def At (w : World) (t : TypeId) (g n : Nat) : Prop := w.heap[g]? = some (.cells (bs n) t (0, 0))
theorem At.lt {w : World} {t g n : Nat} (h : At w t g n) : g < w.heap.size := (Array.getElem?_eq_some_iff.1 h).1
theorem At.cell {w : World} {t g n : Nat} (h : At w t g n) {j : Nat} (hj : j < 16) : w.cell? ⟨g, j, none⟩ = some (.int .u8 (by8 n (15 - j) : Int)) := by
  rw [cell_of_row w g j _ _ _ h, bs_get n j hj]
theorem At.frozen {w : World} {t g n : Nat} (h : At w t g n) (j : Nat) : w.frozen? ⟨g, j, none⟩ = false := frozen_of_row w g j _ _ h
theorem At.drew {w : World} {t g n : Nat} (h : At w t g n) : At w.drew t g n := h
theorem At.drewN {w : World} {t g n : Nat} (h : At w t g n) (q : Nat) : At (w.drewN q) t g n := h
theorem At.alloc {w : World} {t g n : Nat} (h : At w t g n) (o : Obj) : At (w.alloc o) t g n := by
  unfold At at *
  rw [Below.heap_alloc _ _ _ (Array.getElem?_eq_some_iff.1 h).1, h]
theorem At.new (w : World) (t n : Nat) : At (w.alloc (.cells (bs n) t)) t w.heap.size n := heap_alloc_new w _
theorem At.new' (w : World) (t n : Nat) {g : Nat} (e : g = w.heap.size) : At (w.alloc (.cells (bs n) t)) t g n := by rw [e]; exact heap_alloc_new w _
theorem At.below {w w1 : World} {B t g n : Nat} (h : At w t g n) (hb : Below B w w1) (hg : g < B) : At w1 t g n := by
  unfold At at *
  rw [hb.block g hg, h]
theorem At.kept {w w1 : World} {t g n : Nat} (h : At w t g n) (hb : Below w.heap.size w w1) : At w1 t g n := h.below hb h.lt
theorem At.grown {w w1 : World} {t g n : Nat} {r : Option Nat} (h : At w t g n) (hb : w.grownBy w1 r) (hg : some g ≠ r) : At w1 t g n := by
  unfold At at *
  rw [hb.block g (Array.getElem?_eq_some_iff.1 h).1 hg, h]
theorem At.setCell_other {w : World} {t g n : Nat} (h : At w t g n) (a : Addr) (v : Value) (hne : g ≠ a.block) : At (w.setCell a v) t g n := by
  unfold At at *
  rw [heap_setCell_other _ _ _ _ hne, h]
theorem At.setCell {w : World} {t g n m j : Nat} {v : Value} (h : At w t g n) (e : (bs n).setIfInBounds j v = bs m) : At (w.setCell ⟨g, j, none⟩ v) t g m := by
  unfold At at *
  rw [heap_setCell_same _ _ _ _ _ _ h, e]
theorem At.setRow_other {w : World} {t g n : Nat} (h : At w t g n) (g' m : Nat) (hne : g ≠ g') : At (w.setRow g' (bs m)) t g n := by
  unfold At at *
  rw [Go.setRow_other _ _ _ _ hne, h]
theorem At.setRow {w : World} {t g n : Nat} (h : At w t g n) (m : Nat) : At (w.setRow g (bs m)) t g m := setRow_heap _ _ _ _ _ _ h
theorem below_setRow' {B : Nat} {a w : World} (h : Below B a w) {g : Nat} (hg : B ≤ g) (m : Nat) : Below B a (w.setRow g (bs m)) :=
  h.trans ⟨rfl, rfl, rfl, by simp, fun k hk => Go.setRow_other _ _ _ _ (by omega)⟩
theorem below_drewN {B : Nat} {a w : World} (h : Below B a w) (n : Nat) : Below B a (w.drewN n) := ⟨h.os, h.tape, h.output, h.size, h.block⟩
theorem bthen {a b c : World} (h : Below a.heap.size a b) (k : Below b.heap.size b c) : Below a.heap.size a c := h.trans (k.mono h.size)

/-! ### The operations on whole identifiers -/
theorem wpList_ld {ops : Array Oper} {rest : List Oper} {o : Oper} {a : Act} {w : World} {Q : Exit → Act → World → Prop} (hgd : o.guard = none) (t : TypeId) (x : Operand) (ho : o.op = .load t x) (ht : IdT t)
    (g : Nat) (hx : a.eval x = .pointer (some ⟨g, 0, none⟩)) (t' n : Nat) (hA : At w t' g n)
    (h : wpList Try.prog ops Q rest (a.put o.dst (.agg (bs n))) w) : wpList Try.prog ops Q (o :: rest) a w :=
  wpList_load_row hgd t x ho g hx t' (bs n) (0, 0) _ hA ht.under rfl (ht.size n) h
theorem wpList_st {ops : Array Oper} {rest : List Oper} {o : Oper} {a : Act} {w : World} {Q : Exit → Act → World → Prop} (hgd : o.guard = none) (t : TypeId) (x y : Operand) (ho : o.op = .store t x y) (ht : IdT t)
    (g : Nat) (m : Nat) (hx : a.eval x = .pointer (some ⟨g, 0, none⟩)) (hy : a.eval y = .agg (bs m)) (t' n : Nat) (hA : At w t' g n)
    (h : wpList Try.prog ops Q rest (a.put o.dst undef) (w.setRow g (bs m))) : wpList Try.prog ops Q (o :: rest) a w :=
  wpList_store_row hgd t x y ho g (bs m) hx hy t' (bs n) hA (ht.size m) (by rw [bs_size, bs_size]) (bs_one m) h
theorem wpList_al {ops : Array Oper} {rest : List Oper} {o : Oper} {a : Act} {w : World} {Q : Exit → Act → World → Prop} (hgd : o.guard = none) (t : TypeId) (ho : o.op = .alloc t) (ht : IdT t)
    (h : wpList Try.prog ops Q rest (a.put o.dst (.pointer (some ⟨w.heap.size, 0, none⟩))) (w.alloc (.cells (bs 0) t))) : wpList Try.prog ops Q (o :: rest) a w :=
  wpList_plain hgd fun K hK => by
    unfold Oper.wp execOp
    have hz := ht.zero
    simp [ho, Instr.alloc, newVar, newRow, newObj, Sem.run_bind, hz, Value.cells]
    exact hK _ _ h
theorem results_id {fn : Func} {p : Tmp} {ty : TypeId} (h : fn.results = #[.cell p ty]) (ht : IdT ty) (tmps : Array Value) (w : World) (g : Nat) (t n : Nat)
    (hp : tmps.getD p undef = .pointer (some ⟨g, 0, none⟩)) (hA : At w t g n) : (results fn tmps).run Try.prog w = .ok (.agg (bs n)) w :=
  results_cell_row h tmps w g t (bs n) (0, 0) _ hp hA ht.under rfl (ht.size n)
end Go.Proofs.Qxb6631297a
