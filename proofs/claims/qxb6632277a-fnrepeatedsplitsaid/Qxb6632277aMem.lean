/-
  RECORDS IN MEMORY: the cells of a record ('rs'), of an attempt handed in ('aa'), of an attempt listed ('ts'); what the walk does to them whole: read, made, written.
-/
import Derived.Test.Qxb6632277aRows
import Derived.WalkKit
import Derived.WalkSpells
import Derived.WalkLawsBesides
import Derived.Deep.QuietTactic
import Derived.BigQuiet
import Derived.Deep.WholeRow
import Derived.Deep.MidRow
import Derived.Deep.RegionHeld
import Derived.OwnWalk
import Derived.Laws.CopyOwn
import Derived.Maps.AppendAt
namespace Go.Proofs.Qxb6632277a
open Go.RowKit
set_option linter.unusedSimpArgs false
set_option linter.unusedVariables false

/-- What a record of this road says (its other fields are zero). An attempt that is handed in says the same, but 'att'. -/
structure Rec where
  inp : ByteArray
  line : Int
  ok : Bool
  fop : ByteArray
  fail : ByteArray
  err : ByteArray
  http : Int
  rc : ByteArray
  ans : Value
  st : Int
  du : Int
  att : Value
def rl (r : Rec) : List Value :=
  [.string r.inp, .int .i64 r.line, .string ⟨#[]⟩, .string ⟨#[]⟩, .string ⟨#[]⟩, .string ⟨#[]⟩, .slice none 0 0, .slice none 0 0, .string ⟨#[]⟩, .string ⟨#[]⟩, .int .i64 0, .int .u64 0, .int .u64 0, .pointer none, .int .u16 0,
   .string ⟨#[]⟩, .string ⟨#[]⟩, .string ⟨#[]⟩, .string ⟨#[]⟩, .string ⟨#[]⟩, .bool r.ok, .string r.fop, .string r.fail, .string r.err, .int .i64 r.http, .string r.rc, r.ans, .slice none 0 0, .string ⟨#[]⟩, .int .i64 r.st, .int .i64 r.du,
   .slice none 0 0, r.att, .pointer none, .slice none 0 0, .slice none 0 0]
def rs (r : Rec) : Array Value := (rl r).toArray
def al (r : Rec) : List Value := [.string r.inp, .int .i64 r.line, .int .i64 r.st, .int .i64 r.du, .bool r.ok, .string r.fop, .string r.fail, .string r.err, .string r.rc, .int .i64 r.http, r.ans]
def aa (r : Rec) : Array Value := (al r).toArray
def tl (r : Rec) : List Value := [.bool r.ok, .string r.fop, .string r.fail, .int .i64 r.st, .int .i64 r.du]
def ts (r : Rec) : Array Value := (tl r).toArray
def r0 : Rec := ⟨⟨#[]⟩, 0, false, ⟨#[]⟩, ⟨#[]⟩, ⟨#[]⟩, 0, ⟨#[]⟩, .slice none 0 0, 0, 0, .slice none 0 0⟩
/-- A record whose two slices are slices. -/
structure Ok (r : Rec) : Prop where
  ans : r.ans.oneCell' = true
  att : r.att.oneCell' = true
theorem rs_size (r : Rec) : (rs r).size = 36 := rfl
theorem aa_size (r : Rec) : (aa r).size = 11 := rfl
theorem rs_one {r : Rec} (h : Ok r) : (rs r).all (·.oneCell') = true := by
  simp [rs, rl, Value.oneCell']
  exact ⟨h.ans, h.att⟩
theorem aa_one {r : Rec} (h : Ok r) : (aa r).all (·.oneCell') = true := by
  simp [aa, al, Value.oneCell']
  exact h.ans
theorem ts_one (r : Rec) : (ts r).all (·.oneCell') = true := by simp [ts, tl, Value.oneCell']
theorem Try.size55 : (Try.prog.info? 55).map (·.size) = some 36 := by kernel_rfl
theorem Try.size62 : (Try.prog.info? 62).map (·.size) = some 11 := by kernel_rfl
theorem Try.zero55 : (Try.prog.info? 55).map (fun i => (i.zero, i.size)) = some (some (.agg (rs r0)), 36) := by kernel_rfl
theorem Try.zero62 : (Try.prog.info? 62).map (fun i => (i.zero, i.size)) = some (some (.agg (aa r0)), 11) := by kernel_rfl

def At (w : World) (t g : Nat) (c : Array Value) : Prop := w.heap[g]? = some (.cells c t (0, 0))
theorem At.lt {w : World} {t g : Nat} {c : Array Value} (h : At w t g c) : g < w.heap.size := (Array.getElem?_eq_some_iff.1 h).1
theorem At.cell {w : World} {t g : Nat} {c : Array Value} (h : At w t g c) (j : Nat) {v : Value} (hv : c[j]? = some v) : w.cell? ⟨g, j, none⟩ = some v := by
  rw [cell_of_row w g j _ _ _ h, hv]
theorem At.range {w : World} {t g : Nat} {c : Array Value} (h : At w t g c) : w.rangeAt g 0 c.toList := fun j v hv => by
  rw [Nat.zero_add]
  exact h.cell j (by simpa using hv)
theorem At.frozen {w : World} {t g : Nat} {c : Array Value} (h : At w t g c) (j : Nat) : w.frozen? ⟨g, j, none⟩ = false := frozen_of_row w g j _ _ h
theorem At.drew {w : World} {t g : Nat} {c : Array Value} (h : At w t g c) : At w.drew t g c := h
theorem At.alloc {w : World} {t g : Nat} {c : Array Value} (h : At w t g c) (o : Obj) : At (w.alloc o) t g c := by
  unfold At at *
  rw [Below.heap_alloc _ _ _ (Array.getElem?_eq_some_iff.1 h).1, h]
theorem At.new (w : World) (t : Nat) (c : Array Value) : At (w.alloc (.cells c t)) t w.heap.size c := heap_alloc_new w _
theorem At.new' (w : World) (t : Nat) (c : Array Value) {g : Nat} (e : g = w.heap.size) : At (w.alloc (.cells c t)) t g c := by rw [e]; exact heap_alloc_new w _
theorem At.below {w w1 : World} {B t g : Nat} {c : Array Value} (h : At w t g c) (hb : Below B w w1) (hg : g < B) : At w1 t g c := by
  unfold At at *
  rw [hb.block g hg, h]
theorem At.kept {w w1 : World} {t g : Nat} {c : Array Value} (h : At w t g c) (hb : Below w.heap.size w w1) : At w1 t g c := h.below hb h.lt
theorem At.grown {w w1 : World} {t g : Nat} {c : Array Value} {r : Option Nat} (h : At w t g c) (hb : w.grownBy w1 r) (hg : some g ≠ r) : At w1 t g c := by
  unfold At at *
  rw [hb.block g (Array.getElem?_eq_some_iff.1 h).1 hg, h]
theorem At.setCell_other {w : World} {t g : Nat} {c : Array Value} (h : At w t g c) (a : Addr) (v : Value) (hne : g ≠ a.block) : At (w.setCell a v) t g c := by
  unfold At at *
  rw [heap_setCell_other _ _ _ _ hne, h]
theorem At.setCell {w : World} {t g j : Nat} {c c' : Array Value} {v : Value} (h : At w t g c) (e : c.setIfInBounds j v = c') : At (w.setCell ⟨g, j, none⟩ v) t g c' := by
  unfold At at *
  rw [heap_setCell_same _ _ _ _ _ _ h, e]
theorem At.setRow_other {w : World} {t g : Nat} {c : Array Value} (h : At w t g c) (g' : Nat) (c' : Array Value) (hne : g ≠ g') : At (w.setRow g' c') t g c := by
  unfold At at *
  rw [Go.setRow_other _ _ _ _ hne, h]
theorem At.setRow {w : World} {t g : Nat} {c : Array Value} (h : At w t g c) (c' : Array Value) : At (w.setRow g c') t g c' := setRow_heap _ _ _ _ _ _ h
theorem bthen {a b c : World} (h : Below a.heap.size a b) (k : Below b.heap.size b c) : Below a.heap.size a c := h.trans (k.mono h.size)

/-- The two long types. -/
structure Lng (t n : Nat) : Prop where
  under : ∃ d, Try.prog.underlying t = some (.struct d)
  size : (Try.prog.info? t).map (·.size) = some n
theorem L55 : Lng 55 36 := ⟨⟨_, Try.underlying55⟩, Try.size55⟩
theorem L58 : Lng 58 3 := ⟨⟨_, Try.underlying58⟩, by kernel_rfl⟩
theorem L60 : Lng 60 5 := ⟨⟨_, Try.underlying60⟩, by kernel_rfl⟩
theorem L62 : Lng 62 11 := ⟨⟨_, Try.underlying62⟩, Try.size62⟩
theorem wpList_lm {ops : Array Oper} {rest : List Oper} {o : Oper} {a : Act} {w : World} {Q : Exit → Act → World → Prop} (hgd : o.guard = none) (t : TypeId) (x : Operand) (ho : o.op = .load t x) {n : Nat} (ht : Lng t n)
    (b off : Nat) (hx : a.eval x = .pointer (some ⟨b, off, none⟩)) (c : Array Value) (hr : w.rangeAt b off c.toList) (hn : c.size = n)
    (h : wpList Try.prog ops Q rest (a.put o.dst (.agg c)) w) : wpList Try.prog ops Q (o :: rest) a w := by
  obtain ⟨d, hd⟩ := ht.under
  exact wpList_load_mid hgd t x ho b off hx c.toList _ hr hd rfl (by rw [ht.size, ← hn]; simp) h
theorem wpList_al {ops : Array Oper} {rest : List Oper} {o : Oper} {a : Act} {w : World} {Q : Exit → Act → World → Prop} (hgd : o.guard = none) (t : TypeId) (ho : o.op = .alloc t) (z : Array Value) (hz : ∀ w, (zeroValue t).run Try.prog w = .ok (.agg z) w)
    (h : wpList Try.prog ops Q rest (a.put o.dst (.pointer (some ⟨w.heap.size, 0, none⟩))) (w.alloc (.cells z t))) : wpList Try.prog ops Q (o :: rest) a w :=
  wpList_plain hgd fun K hK => by
    unfold Oper.wp execOp
    simp [ho, Instr.alloc, newVar, newRow, newObj, Sem.run_bind, hz, Value.cells]
    exact hK _ _ h
theorem z55 : ∀ w, (zeroValue 55).run Try.prog w = .ok (.agg (rs r0)) w := (zero_of_info Try.zero55).1
theorem z62 : ∀ w, (zeroValue 62).run Try.prog w = .ok (.agg (aa r0)) w := (zero_of_info Try.zero62).1
/-- A store over a block made last. -/
theorem wpList_sn {ops : Array Oper} {rest : List Oper} {o : Oper} {a : Act} {w : World} {Q : Exit → Act → World → Prop} (hgd : o.guard = none) (t : TypeId) (x y : Operand) (ho : o.op = .store t x y) {n : Nat} (ht : Lng t n)
    (z c : Array Value) (hx : a.eval x = .pointer (some ⟨w.heap.size, 0, none⟩)) (hy : a.eval y = .agg c) (hz : z.size = n) (hc : c.size = n) (h1 : c.all (·.oneCell') = true)
    (h : wpList Try.prog ops Q rest (a.put o.dst undef) (w.alloc (.cells c t))) : wpList Try.prog ops Q (o :: rest) a (w.alloc (.cells z t)) := by
  refine wpList_store_row hgd t x y ho w.heap.size c hx hy t z (At.new w t z) (by rw [ht.size, hc]) (by rw [hz, hc]) h1 ?_
  rw [World.setRow_alloc_new]
  exact h
theorem op_at {l : List Oper} {i : Nat} {o : Oper} (h : l[i]? = some o) : l.toArray[i]? = some o := by simpa using h
theorem run_lm {w : World} {t b off n : Nat} {c : Array Value} (hr : w.rangeAt b off c.toList) (ht : Lng t n) (hn : c.size = n) : (Instr.loadAt t (.pointer (some ⟨b, off, none⟩))).run Try.prog w = .ok (.agg c) w := by
  obtain ⟨d, hd⟩ := ht.under
  simp only [Instr.loadAt, Instr.sureAddr, Sem.run_bind, Sem.run_pure, Result.andThen_ok]
  exact run_loadVar_mid w b off t c.toList _ hr hd rfl (by rw [ht.size, ← hn]; simp)
theorem yld {ops : Array Oper} {S : World → Prop} {op : Oper} {a : Act} (hw : Region.wanted op (yielded ops a.tmps) = true) (t : TypeId) (x : Operand) (ho : op.op = .load t x) {n : Nat} (ht : Lng t n)
    (b off : Nat) (hx : a.eval x = .pointer (some ⟨b, off, none⟩)) (c : Array Value) (hn : c.size = n) (hS : ∀ w, S w → w.rangeAt b off c.toList) : YieldsIf Try.prog ops S op (.agg c) a :=
  .inl ⟨hw, fun w hw' => by
    unfold execOp
    simp only [ho, hx, Sem.run_bind, run_lm (hS w hw') ht hn, Result.andThen, Sem.run_pure]⟩
theorem results_rec {fn : Func} {p : Tmp} {ty n : Nat} (h : fn.results = #[.cell p ty]) (ht : Lng ty n) (tmps : Array Value) (w : World) (g t : Nat) (c : Array Value)
    (hp : tmps.getD p undef = .pointer (some ⟨g, 0, none⟩)) (hA : At w t g c) (hn : c.size = n) : (results fn tmps).run Try.prog w = .ok (.agg c) w := by
  obtain ⟨d, hd⟩ := ht.under
  exact results_cell_row h tmps w g t c (0, 0) _ hp hA hd rfl (by rw [ht.size, hn])

/-! ### Verdict, attempt -/
theorem rs20 (r : Rec) : (rs r)[20]? = some (.bool r.ok) := rfl
theorem rs21 (r : Rec) : (rs r)[21]? = some (.string r.fop) := rfl
theorem rs22 (r : Rec) : (rs r)[22]? = some (.string r.fail) := rfl
theorem rs29 (r : Rec) : (rs r)[29]? = some (.int .i64 r.st) := rfl
theorem rs30 (r : Rec) : (rs r)[30]? = some (.int .i64 r.du) := rfl
theorem rs32 (r : Rec) : (rs r)[32]? = some r.att := rfl
set_option maxHeartbeats 400000 in
theorem verdict_any (r : Rec) (w : World) :
    Calls Try.prog 9 #[.agg (rs r)] w fun e w' => e = .returned (.agg #[.bool r.ok, .string r.fop, .string r.fail]) ∧ Below w.heap.size w w' := by
  have c1 := rs20 r
  have c2 := rs21 r
  have c3 := rs22 r
  have hB := (Below.refl w.heap.size w).alloc (Nat.le_refl _) (.cells (rs r) 55)
  have HB : Hid _ := hB
  clear hB
  generalize rs r = c at *
  go_enter Try.func9, Try.ntmps9
  go_wp2
  refine bodyPost_ret (results_rec rfl L58 _ _ (w.heap.size + 1) 58 _ (by rfl) (At.new' _ _ _ (by simp)) rfl) rfl ?_
  exact ⟨rfl, HB.out.alloc (by simp) _⟩
structure SA (w : World) (c : Array Value) (w' : World) : Prop where
  r : At w' 55 w.heap.size c
  t : ∃ t, At w' 60 (w.heap.size + 1) t ∧ t.size = 5
  below : Below w.heap.size w w'
theorem SA.drew {w : World} {c : Array Value} {w1 : World} (h : SA w c w1) : SA w c w1.drew := ⟨h.r, h.t, h.below.drew⟩
theorem SA.then {w : World} {c : Array Value} {w1 w2 : World} (h : SA w c w1) (hb : Below w1.heap.size w1 w2) : SA w c w2 := ⟨h.r.kept hb, h.t.elim fun t ht => ⟨t, ht.1.kept hb, ht.2⟩, bthen h.below hb⟩
def t0 : Array Value := #[.bool false, .string ⟨#[]⟩, .string ⟨#[]⟩, .int .i64 0, .int .i64 0]
theorem run_build60 (r : Rec) (w : World) : (Instr.build 60 #[(0, .agg #[.bool r.ok, .string r.fop, .string r.fail]), (1, .int .i64 r.st), (2, .int .i64 r.du)]).run Try.prog w = .ok (.agg (ts r)) w := by
  refine run_build w 60 _ (ts r) ?_
  kernel_rfl
set_option maxHeartbeats 800000 in
theorem attempt_any (r : Rec) (w : World) :
    Calls Try.prog 12 #[.agg (rs r)] w fun e w' => e = .returned (.agg (ts r)) ∧ Below w.heap.size w w' := by
  have hS : SA w (rs r) ((w.alloc (.cells (rs r) 55)).alloc (.cells t0 60)) := ⟨(At.new w 55 (rs r)).alloc _, ⟨t0, At.new' _ 60 _ (by simp), rfl⟩, ((Below.refl w.heap.size w).alloc (Nat.le_refl _) _).alloc (by simp) _⟩
  have hbuild := run_build60 r
  have hV := verdict_any r
  have HV : Hid _ := hV
  have c29 : Hid _ := rs29 r
  have c30 : Hid _ := rs30 r
  have hsz := rs_size r
  clear hV
  generalize rs r = c at *
  go_enter Try.func12, Try.ntmps12
  go_wp2
  simp only [← show t0 = #[.bool false, .string ⟨#[]⟩, .string ⟨#[]⟩, .int .i64 0, .int .i64 0] from rfl]
  generalize (w.alloc (.cells c 55)).alloc (.cells t0 60) = w1 at *
  refine wp_region_held_drew (S := SA w c) (by kernel_rfl) hS.drew (fun hHeld => ?_)
  refine wpAnyH_take (i := 0) (v := .agg (c)) (op_at rfl) (by kernel_rfl) (by kernel_rfl) (by kernel_rfl) (fun _ _ _ h => h) (yld (by rfl) 55 _ rfl L55 w.heap.size (0) rfl (c) hsz (fun _ h => h.r.range)) hHeld ?_
  simp only [Act.put, List.setIfInBounds_toArray, List.set_cons_zero, List.set_cons_succ]
  refine wpAnyH_take (i := 2) (v := .pointer (some ⟨w.heap.size, 29, none⟩)) (op_at rfl) (by kernel_rfl) (by kernel_rfl) (by kernel_rfl) (fun _ _ _ h => h) (Or.inl ⟨by rfl, fun w hSw => by go_simp⟩) hHeld ?_
  simp only [Act.put, List.setIfInBounds_toArray, List.set_cons_zero, List.set_cons_succ]
  refine wpAnyH_take (i := 3) (v := .int .i64 r.st) (op_at rfl) (by kernel_rfl) (by kernel_rfl) (by kernel_rfl) (fun _ _ _ h => h) (Or.inl ⟨by rfl, fun w hSw => by have := hSw.r.cell 29 c29.out; go_simp⟩) hHeld ?_
  simp only [Act.put, List.setIfInBounds_toArray, List.set_cons_zero, List.set_cons_succ]
  refine wpAnyH_take (i := 4) (v := .pointer (some ⟨w.heap.size, 30, none⟩)) (op_at rfl) (by kernel_rfl) (by kernel_rfl) (by kernel_rfl) (fun _ _ _ h => h) (Or.inl ⟨by rfl, fun w hSw => by go_simp⟩) hHeld ?_
  simp only [Act.put, List.setIfInBounds_toArray, List.set_cons_zero, List.set_cons_succ]
  refine wpAnyH_take (i := 5) (v := .int .i64 r.du) (op_at rfl) (by kernel_rfl) (by kernel_rfl) (by kernel_rfl) (fun _ _ _ h => h) (Or.inl ⟨by rfl, fun w hSw => by have := hSw.r.cell 30 c30.out; go_simp⟩) hHeld ?_
  simp only [Act.put, List.setIfInBounds_toArray, List.set_cons_zero, List.set_cons_succ]
  refine wpAnyH_ready (rs := [1]) (by kernel_rfl) (by simp) ?_
  refine AllReadyH.cons (op_at rfl) (fun K hK => ?_) AllReadyH.nil
  go_simp
  refine (HV.out _).mono ?_
  rintro e w5 ⟨rfl, hb5⟩
  refine hK.out _ _ (hHeld.then hb5) (fun hHeld' => ?_)
  clear hK K hHeld
  have hHeld := hHeld'
  clear hHeld'
  try simp only [Act.put, List.setIfInBounds_toArray, List.set_cons_zero, List.set_cons_succ]
  refine wpAnyH_take (i := 6) (v := .agg (ts r)) (op_at rfl) (by kernel_rfl) (by kernel_rfl) (by kernel_rfl) (fun _ _ _ h => h) (Or.inl ⟨by rfl, fun w hSw => by simp [execOp, Act.eval]; rw [hbuild]; rfl⟩) hHeld ?_
  simp only [Act.put, List.setIfInBounds_toArray, List.set_cons_zero, List.set_cons_succ]
  obtain ⟨t, hT, hts⟩ := hHeld.t
  have hnx : At (w5.setRow (w.heap.size + 1) (ts r)) 60 (w.heap.size + 1) (ts r) := setRow_heap _ _ _ _ _ _ hT
  have hS2 : SA w c (w5.setRow (w.heap.size + 1) (ts r)) := ⟨hHeld.r.setRow_other _ _ (by omega), ⟨_, hnx, rfl⟩, below_setRow hHeld.below (by omega) _⟩
  refine wpAnyH_ready (rs := [7]) (by kernel_rfl) (by simp) ?_
  refine AllReadyH.cons (op_at rfl) (fun K hK => ?_) AllReadyH.nil
  rw [if_pos (by rfl)]
  refine wp_store_row 60 _ _ rfl (w.heap.size + 1) (ts r) rfl rfl 60 t hT (L60.size) (by rw [hts]; rfl) (ts_one r) ?_
  refine hK.out _ _ (hS2) (fun hHeld' => ?_)
  clear hK K hHeld
  have hHeld := hHeld'
  clear hHeld'
  try simp only [Act.put, List.setIfInBounds_toArray, List.set_cons_zero, List.set_cons_succ]
  refine wpAnyH_done (by kernel_rfl) ?_ _
  go_wp2
  refine bodyPost_ret (results_rec rfl L60 _ _ (w.heap.size + 1) 60 _ (by rfl) hnx rfl) rfl ?_
  exact ⟨rfl, hS2.below⟩
end Go.Proofs.Qxb6632277a
