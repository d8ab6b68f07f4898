/-
  SLICES OF STRINGS, COMPARED (eqStrs), and carriesLast, WALKED.
-/
import Derived.Test.Qxb6632277aMem
namespace Go.Proofs.Qxb6632277a
open Go.RowKit
set_option linter.unusedSimpArgs false
set_option linter.unusedVariables false
/-- The slice v (nil or not: nl) holds the strings L. -/
def SL (w : World) (v : Value) (nl : Bool) (L : List ByteArray) : Prop :=
  ∃ a cap, v = .slice a L.length cap ∧ a.isNone = nl ∧ (L = [] ∨ ∃ b off, a = some ⟨b, off, none⟩ ∧ ∀ i s, L[i]? = some s → w.cell? ⟨b, off + i, none⟩ = some (.string s))
theorem SL.below {w w1 : World} {B : Nat} {v : Value} {nl : Bool} {L : List ByteArray} (h : SL w v nl L) (hb : Below B w w1) (hB : w.heap.size ≤ B) : SL w1 v nl L := by
  obtain ⟨a, cap, rfl, hn, h⟩ := h
  refine ⟨a, cap, rfl, hn, ?_⟩
  rcases h with h | ⟨b, off, rfl, q⟩
  · exact .inl h
  · refine .inr ⟨b, off, rfl, fun i s hi => ?_⟩
    have k := q i s hi
    rw [hb.cell (p := ⟨b, off + i, none⟩) (Nat.lt_of_lt_of_le (block_lt_of_cell k) hB)]
    exact k
theorem SL.kept {w w1 : World} {v : Value} {nl : Bool} {L : List ByteArray} (h : SL w v nl L) (hb : Below w.heap.size w w1) : SL w1 v nl L := h.below hb (Nat.le_refl _)
theorem SL.alloc {w : World} {v : Value} {nl : Bool} {L : List ByteArray} (h : SL w v nl L) (o : Obj) : SL (w.alloc o) v nl L := h.kept ((Below.refl _ _).alloc (Nat.le_refl _) o)
theorem SL.drew {w : World} {v : Value} {nl : Bool} {L : List ByteArray} (h : SL w v nl L) : SL w.drew v nl L := h
theorem SL.one {w : World} {v : Value} {nl : Bool} {L : List ByteArray} (h : SL w v nl L) : v.oneCell' = true := by
  obtain ⟨a, cap, rfl, _⟩ := h; rfl
theorem below_drewN {B : Nat} {a w : World} (h : Below B a w) (n : Nat) : Below B a (w.drewN n) := ⟨h.os, h.tape, h.output, h.size, h.block⟩
set_option maxHeartbeats 800000 in
theorem eqStrs_same (v1 v2 : Value) (nl : Bool) (L : List ByteArray) (hlen : L.length ≤ 2 ^ 20) (w : World) (h1 : SL w v1 nl L) (h2 : SL w v2 nl L) :
    Calls Try.prog 13 #[v1, v2] w fun e w' => e = .returned (.bool true) ∧ Below w.heap.size w w' := by
  obtain ⟨a1, cap1, rfl, n1, r1⟩ := h1
  obtain ⟨a2, cap2, rfl, n2, r2⟩ := h2
  have hn1 := fun wx => Lib.run_eql_slice_nil (P := Try.prog) wx 46 9 a1 L.length cap1 0 0 Try.underlying46
  have hn2 := fun wx => Lib.run_eql_slice_nil (P := Try.prog) wx 46 9 a2 L.length cap2 0 0 Try.underlying46
  rw [n1] at hn1
  rw [n2] at hn2
  have hne : (((L.length : Int)) != (L.length : Int)) = false := by simp
  have hnl : (nl != nl) = false := by simp
  go_enter Try.func13, Try.ntmps13
  go_wp2
  go_loopw [5] (fun i wr => ∃ k : Nat, k ≤ L.length ∧ i = .int .i64 (k : Int) ∧ Below w.heap.size w wr) (fun i _ => L.length - (intOf i).toNat)
  case atStart => exact ⟨0, Nat.zero_le _, rfl, Below.refl _ _⟩
  case round =>
    obtain ⟨k, hk, rfl, hb⟩ := hrel
    by_cases hlt : k < L.length
    · obtain ⟨s, hn⟩ : ∃ n, L[k]? = some n := ⟨_, List.getElem?_eq_getElem hlt⟩
      have hL : L ≠ [] := by rintro rfl; simp at hlt
      obtain ⟨b1, o1, rfl, q1⟩ := r1.resolve_left hL
      obtain ⟨b2, o2, rfl, q2⟩ := r2.resolve_left hL
      have k1 := q1 k s hn
      have k2 := q2 k s hn
      have c1 : wr.cell? ⟨b1, o1 + k, none⟩ = some (.string s) := by rw [hb.cell (p := ⟨b1, o1 + k, none⟩) (block_lt_of_cell k1)]; exact k1
      have c2 : wr.cell? ⟨b2, o2 + k, none⟩ = some (.string s) := by rw [hb.cell (p := ⟨b2, o2 + k, none⟩) (block_lt_of_cell k2)]; exact k2
      have hkI : (k : Int) < (L.length : Int) := by omega
      clear hn hL q1 q2 k1 k2 r1 r2 hn1 hn2
      go_wp2
      go_quiet (fail)
      go_wp2
      go_roundw
      case rel => exact ⟨k + 1, by omega, by go_num, below_drewN hb _⟩
      case measure => simp [intOf] <;> omega
    · go_wp2
      go_ret
      exact ⟨rfl, hb⟩

theorem rs0 (r : Rec) : (rs r)[0]? = some (.string r.inp) := rfl
theorem rs1 (r : Rec) : (rs r)[1]? = some (.int .i64 r.line) := rfl
theorem rs23 (r : Rec) : (rs r)[23]? = some (.string r.err) := rfl
theorem rs24 (r : Rec) : (rs r)[24]? = some (.int .i64 r.http) := rfl
theorem rs25 (r : Rec) : (rs r)[25]? = some (.string r.rc) := rfl
theorem rs26 (r : Rec) : (rs r)[26]? = some r.ans := rfl
theorem aa0 (r : Rec) : (aa r)[0]? = some (.string r.inp) := rfl
theorem aa1 (r : Rec) : (aa r)[1]? = some (.int .i64 r.line) := rfl
theorem aa2 (r : Rec) : (aa r)[2]? = some (.int .i64 r.st) := rfl
theorem aa3 (r : Rec) : (aa r)[3]? = some (.int .i64 r.du) := rfl
theorem aa4 (r : Rec) : (aa r)[4]? = some (.bool r.ok) := rfl
theorem aa5 (r : Rec) : (aa r)[5]? = some (.string r.fop) := rfl
theorem aa6 (r : Rec) : (aa r)[6]? = some (.string r.fail) := rfl
theorem aa7 (r : Rec) : (aa r)[7]? = some (.string r.err) := rfl
theorem aa8 (r : Rec) : (aa r)[8]? = some (.string r.rc) := rfl
theorem aa9 (r : Rec) : (aa r)[9]? = some (.int .i64 r.http) := rfl
theorem aa10 (r : Rec) : (aa r)[10]? = some r.ans := rfl
/-- The record r says what the attempt a found. -/
structure Same (r a : Rec) : Prop where
  inp : r.inp = a.inp
  line : r.line = a.line
  ok : r.ok = a.ok
  fop : r.fop = a.fop
  fail : r.fail = a.fail
  err : r.err = a.err
  http : r.http = a.http
  rc : r.rc = a.rc
set_option maxHeartbeats 1000000 in
theorem carries_any (r a : Rec) (hs : Same r a) (nl : Bool) (L : List ByteArray) (hlen : L.length ≤ 2 ^ 20) (w : World) (h1 : SL w r.ans nl L) (h2 : SL w a.ans nl L) :
    Calls Try.prog 10 #[.agg (rs r), .agg (aa a)] w fun e w' => e = .returned (.bool true) ∧ Below w.heap.size w w' := by
  have q1 := rs0 r; have q2 := rs1 r; have q3 := rs20 r; have q4 := rs21 r; have q5 := rs22 r; have q6 := rs23 r; have q7 := rs24 r; have q8 := rs25 r; have q9 := rs26 r
  have p1 := aa0 a; have p2 := aa1 a; have p3 := aa4 a; have p4 := aa5 a; have p5 := aa6 a; have p6 := aa7 a; have p7 := aa9 a; have p8 := aa8 a; have p9 := aa10 a
  rw [hs.inp] at q1; rw [hs.line] at q2; rw [hs.ok] at q3; rw [hs.fop] at q4; rw [hs.fail] at q5; rw [hs.err] at q6; rw [hs.http] at q7; rw [hs.rc] at q8
  have HC : Hid (∀ w1 : World, Below w.heap.size w w1 → Calls Try.prog 13 #[r.ans, a.ans] w1 fun e w' => e = .returned (.bool true) ∧ Below w1.heap.size w1 w') := fun w1 hb => eqStrs_same _ _ nl L hlen w1 (h1.kept hb) (h2.kept hb)
  have HB : Hid (Below w.heap.size w ((w.alloc (.cells (rs r) 55)).alloc (.cells (aa a) 62))) := ((Below.refl w.heap.size w).alloc (Nat.le_refl _) _).alloc (by simp) _
  clear h1 h2 hs
  generalize rs r = c at *
  generalize aa a = d at *
  generalize r.ans = v1 at *
  generalize a.ans = v2 at *
  generalize a.inp = x1 at *; generalize a.line = x2 at *; generalize a.ok = x3 at *; generalize a.fop = x4 at *; generalize a.fail = x5 at *; generalize a.err = x6 at *; generalize a.http = x7 at *; generalize a.rc = x8 at *
  go_enter Try.func10, Try.ntmps10
  go_wp2_with (go_at_call 13; refine (HC.out _ HB.out).mono ?_; rintro e w5 ⟨rfl, hb5⟩)
  go_ret
  exact ⟨rfl, bthen HB.out hb5⟩
end Go.Proofs.Qxb6632277a
