/-
  chord's (*Table).covers, WALKED.
-/
import Derived.Test.Qxb6631297aNear
namespace Go.Proofs.Qxb6631297a
open Go.RowKit
set_option linter.unusedSimpArgs false
/-- A chord.Table in memory (block T): its own identifier, its two slices of neighbours. -/
structure Tab (w : World) (T s : Nat) (pa : Option Addr) (pn pc : Nat) (sa : Option Addr) (sn sc : Nat) : Prop where
  self : w.rangeAt T 0 (bl s)
  preds : w.cell? ⟨T, 16, none⟩ = some (.slice pa pn pc)
  succs : w.cell? ⟨T, 17, none⟩ = some (.slice sa sn sc)
theorem Tab.kept {w w1 : World} {T s : Nat} {pa : Option Addr} {pn pc : Nat} {sa : Option Addr} {sn sc : Nat} (h : Tab w T s pa pn pc sa sn sc) (hb : Below w.heap.size w w1) : Tab w1 T s pa pn pc sa sn sc :=
  ⟨range_kept h.self hb, by rw [hb.cell (p := ⟨T, 16, none⟩) (block_lt_of_cell h.preds)]; exact h.preds, by rw [hb.cell (p := ⟨T, 17, none⟩) (block_lt_of_cell h.succs)]; exact h.succs⟩
theorem Tab.alloc {w : World} {T s : Nat} {pa : Option Addr} {pn pc : Nat} {sa : Option Addr} {sn sc : Nat} (h : Tab w T s pa pn pc sa sn sc) (o : Obj) : Tab (w.alloc o) T s pa pn pc sa sn sc :=
  h.kept ((Below.refl _ _).alloc (Nat.le_refl _) o)
theorem Tab.drew {w : World} {T s : Nat} {pa : Option Addr} {pn pc : Nat} {sa : Option Addr} {sn sc : Nat} (h : Tab w T s pa pn pc sa sn sc) : Tab w.drew T s pa pn pc sa sn sc := ⟨h.self, h.preds, h.succs⟩
structure SC (w : World) (T s : Nat) (pa : Option Addr) (pn pc : Nat) (sa : Option Addr) (sn sc : Nat) (P S : List Nat) (k : Nat) (w' : World) : Prop where
  tab : Tab w' T s pa pn pc sa sn sc
  pred : Seq w' pa P
  succ : Seq w' sa S
  key : At w' 27 w.heap.size k
  below : Below w.heap.size w w'
theorem SC.then {w : World} {T s : Nat} {pa : Option Addr} {pn pc : Nat} {sa : Option Addr} {sn sc : Nat} {P S : List Nat} {k : Nat} {w1 w2 : World} (h : SC w T s pa pn pc sa sn sc P S k w1) (hb : Below w1.heap.size w1 w2) : SC w T s pa pn pc sa sn sc P S k w2 :=
  ⟨h.tab.kept hb, h.pred.kept hb, h.succ.kept hb, h.key.kept hb, bthen h.below hb⟩
theorem SC.drew {w : World} {T s : Nat} {pa : Option Addr} {pn pc : Nat} {sa : Option Addr} {sn sc : Nat} {P S : List Nat} {k : Nat} {w1 : World} (h : SC w T s pa pn pc sa sn sc P S k w1) : SC w T s pa pn pc sa sn sc P S k w1.drew :=
  ⟨h.tab.drew, h.pred, h.succ, h.key, h.below.drew⟩

theorem wrap_i64 {x : Int} (h1 : -9223372036854775808 ≤ x) (h2 : x ≤ 9223372036854775807) : IntKind.i64.wrap x = x := by
  simp [IntKind.wrap, IntKind.bits, IntKind.signed]
  omega
set_option maxHeartbeats 800000 in
theorem covers_none (T s : Nat) (pa : Option Addr) (pn pc : Nat) (sa : Option Addr) (sc k : Nat) (w : World) (hT : Tab w T s pa pn pc sa 0 sc) :
    Calls Try.prog 17 #[.pointer (some ⟨T, 0, none⟩), .agg (bs k)] w fun e w' => e = .returned (.bool true) ∧ Below w.heap.size w w' := by
  have hB := (Below.refl w.heap.size w).alloc (Nat.le_refl _) (.cells (bs k) 27)
  have hT1 := (hT.alloc (.cells (bs k) 27))
  have hs := hT.succs
  have hlt := block_lt_of_cell hT.succs
  go_enter Try.func17, Try.ntmps17
  go_wp2
  refine wp_region_held_drew (S := fun w' => Below w.heap.size w w') (by kernel_rfl) hB.drew (fun hHeld => ?_)
  refine wpAnyH_take (i := 0) (v := .int .i64 0) (op_at rfl) (by kernel_rfl) (by kernel_rfl) (by kernel_rfl) (fun _ _ _ h => h) (Or.inl ⟨by rfl, fun w hSw => rfl⟩) hHeld ?_
  simp only [Act.put, List.setIfInBounds_toArray, List.set_cons_zero, List.set_cons_succ]
  refine wpAnyH_take (i := 1) (v := .bool true) (op_at rfl) (by kernel_rfl) (by kernel_rfl) (by kernel_rfl) (fun _ _ _ h => h) (Or.inl ⟨by rfl, fun w hSw => by go_simp⟩) hHeld ?_
  simp only [Act.put, List.setIfInBounds_toArray, List.set_cons_zero, List.set_cons_succ]
  refine wpAnyH_take (i := 2) (v := .bool true) (op_at rfl) (by kernel_rfl) (by kernel_rfl) (by kernel_rfl) (fun _ _ _ h => h) (Or.inl ⟨by rfl, fun w hSw => rfl⟩) hHeld ?_
  simp only [Act.put, List.setIfInBounds_toArray, List.set_cons_zero, List.set_cons_succ]
  refine wpAnyH_take (i := 3) (v := undef) (op_at rfl) (by kernel_rfl) (by kernel_rfl) (by kernel_rfl) (fun _ _ _ h => h) (Or.inr ⟨by rfl, rfl⟩) hHeld ?_
  simp only [Act.put, List.setIfInBounds_toArray, List.set_cons_zero, List.set_cons_succ]
  refine wpAnyH_take (i := 4) (v := undef) (op_at rfl) (by kernel_rfl) (by kernel_rfl) (by kernel_rfl) (fun _ _ _ h => h) (Or.inr ⟨by rfl, rfl⟩) hHeld ?_
  simp only [Act.put, List.setIfInBounds_toArray, List.set_cons_zero, List.set_cons_succ]
  refine wpAnyH_take (i := 5) (v := undef) (op_at rfl) (by kernel_rfl) (by kernel_rfl) (by kernel_rfl) (fun _ _ _ h => h) (Or.inr ⟨by rfl, rfl⟩) hHeld ?_
  simp only [Act.put, List.setIfInBounds_toArray, List.set_cons_zero, List.set_cons_succ]
  refine wpAnyH_take (i := 6) (v := undef) (op_at rfl) (by kernel_rfl) (by kernel_rfl) (by kernel_rfl) (fun _ _ _ h => h) (Or.inr ⟨by rfl, rfl⟩) hHeld ?_
  simp only [Act.put, List.setIfInBounds_toArray, List.set_cons_zero, List.set_cons_succ]
  refine wpAnyH_take (i := 7) (v := undef) (op_at rfl) (by kernel_rfl) (by kernel_rfl) (by kernel_rfl) (fun _ _ _ h => h) (Or.inr ⟨by rfl, rfl⟩) hHeld ?_
  simp only [Act.put, List.setIfInBounds_toArray, List.set_cons_zero, List.set_cons_succ]
  refine wpAnyH_take (i := 8) (v := undef) (op_at rfl) (by kernel_rfl) (by kernel_rfl) (by kernel_rfl) (fun _ _ _ h => h) (Or.inr ⟨by rfl, rfl⟩) hHeld ?_
  simp only [Act.put, List.setIfInBounds_toArray, List.set_cons_zero, List.set_cons_succ]
  refine wpAnyH_take (i := 9) (v := undef) (op_at rfl) (by kernel_rfl) (by kernel_rfl) (by kernel_rfl) (fun _ _ _ h => h) (Or.inr ⟨by rfl, rfl⟩) hHeld ?_
  simp only [Act.put, List.setIfInBounds_toArray, List.set_cons_zero, List.set_cons_succ]
  refine wpAnyH_take (i := 10) (v := undef) (op_at rfl) (by kernel_rfl) (by kernel_rfl) (by kernel_rfl) (fun _ _ _ h => h) (Or.inr ⟨by rfl, rfl⟩) hHeld ?_
  simp only [Act.put, List.setIfInBounds_toArray, List.set_cons_zero, List.set_cons_succ]
  refine wpAnyH_take (i := 11) (v := undef) (op_at rfl) (by kernel_rfl) (by kernel_rfl) (by kernel_rfl) (fun _ _ _ h => h) (Or.inr ⟨by rfl, rfl⟩) hHeld ?_
  simp only [Act.put, List.setIfInBounds_toArray, List.set_cons_zero, List.set_cons_succ]
  refine wpAnyH_take (i := 12) (v := undef) (op_at rfl) (by kernel_rfl) (by kernel_rfl) (by kernel_rfl) (fun _ _ _ h => h) (Or.inr ⟨by rfl, rfl⟩) hHeld ?_
  simp only [Act.put, List.setIfInBounds_toArray, List.set_cons_zero, List.set_cons_succ]
  refine wpAnyH_take (i := 13) (v := undef) (op_at rfl) (by kernel_rfl) (by kernel_rfl) (by kernel_rfl) (fun _ _ _ h => h) (Or.inr ⟨by rfl, rfl⟩) hHeld ?_
  simp only [Act.put, List.setIfInBounds_toArray, List.set_cons_zero, List.set_cons_succ]
  refine wpAnyH_take (i := 14) (v := undef) (op_at rfl) (by kernel_rfl) (by kernel_rfl) (by kernel_rfl) (fun _ _ _ h => h) (Or.inr ⟨by rfl, rfl⟩) hHeld ?_
  simp only [Act.put, List.setIfInBounds_toArray, List.set_cons_zero, List.set_cons_succ]
  refine wpAnyH_take (i := 15) (v := undef) (op_at rfl) (by kernel_rfl) (by kernel_rfl) (by kernel_rfl) (fun _ _ _ h => h) (Or.inr ⟨by rfl, rfl⟩) hHeld ?_
  simp only [Act.put, List.setIfInBounds_toArray, List.set_cons_zero, List.set_cons_succ]
  refine wpAnyH_take (i := 16) (v := .bool true) (op_at rfl) (by kernel_rfl) (by kernel_rfl) (by kernel_rfl) (fun _ _ _ h => h) (Or.inl ⟨by rfl, fun w hSw => by go_simp⟩) hHeld ?_
  simp only [Act.put, List.setIfInBounds_toArray, List.set_cons_zero, List.set_cons_succ]
  refine wpAnyH_done (by kernel_rfl) ?_ _
  go_wp2
  go_ret
  exact ⟨rfl, hHeld⟩

set_option maxHeartbeats 800000 in
theorem covers_some (T s : Nat) (pa : Option Addr) (pn pc : Nat) (sa : Option Addr) (m sc k : Nat) (P S : List Nat) (p q : Nat) (hP : ∀ n ∈ P, n < M128) (hS : ∀ n ∈ S, n < M128) (hk : k < M128)
    (hlS : S.length = m + 1) (hmb : m ≤ 2 ^ 20) (hpn : m < pn) (hp : P[m]? = some p) (hq : S[m]? = some q) (w : World) (hT : Tab w T s pa pn pc sa (m + 1) sc) (h1 : Seq w pa P) (h2 : Seq w sa S) :
    Calls Try.prog 17 #[.pointer (some ⟨T, 0, none⟩), .agg (bs k)] w fun e w' => e = .returned (.bool (S.contains p || wth p k q)) ∧ Below w.heap.size w w' := by
  have hSC : SC w T s pa pn pc sa (m + 1) sc P S k (w.alloc (.cells (bs k) 27)) := ⟨hT.alloc _, h1.alloc _, h2.alloc _, At.new w 27 k, (Below.refl w.heap.size w).alloc (Nat.le_refl _) (.cells (bs k) 27)⟩
  have hs := hT.succs
  have hlt := block_lt_of_cell hT.succs
  obtain ⟨pb, po, rfl⟩ := h1.addr hp
  obtain ⟨sb, so, rfl⟩ := h2.addr hq
  have hpM := hP p (List.mem_of_getElem? hp)
  have hqM := hS q (List.mem_of_getElem? hq)
  have HP : Hid _ := hp
  have HQ : Hid _ := hq
  have HL : Hid _ := hlS
  have hi1 : (m : Int) < (pn : Int) := by omega
  clear hp hq hlS h1 h2 hT
  go_enter Try.func17, Try.ntmps17
  go_wp2
  clear hs hlt
  have hw64 : IntKind.i64.wrap (m : Int) = (m : Int) := wrap_i64 (by omega) (by omega)
  have hi2 : (m : Int) < (m : Int) + 1 := by omega
  have hn1 : (((m : Int) + 1) == 0) = false := beq_eq_false_iff_ne.2 (by omega)
  cases hc : S.contains p
  all_goals
    refine wp_region_held_drew (S := SC w T s (some ⟨pb, po, none⟩) pn pc (some ⟨sb, so, none⟩) (m + 1) sc P S k) (by kernel_rfl) hSC.drew (fun hHeld => ?_)
    refine wpAnyH_take (i := 0) (v := .int .i64 ((m : Int) + 1)) (op_at rfl) (by kernel_rfl) (by kernel_rfl) (by kernel_rfl) (fun _ _ _ h => h) (Or.inl ⟨by rfl, fun w hSw => rfl⟩) hHeld ?_
    simp only [Act.put, List.setIfInBounds_toArray, List.set_cons_zero, List.set_cons_succ]
    refine wpAnyH_take (i := 1) (v := .bool false) (op_at rfl) (by kernel_rfl) (by kernel_rfl) (by kernel_rfl) (fun _ _ _ h => h) (Or.inl ⟨by rfl, fun w hSw => by go_simp⟩) hHeld ?_
    simp only [Act.put, List.setIfInBounds_toArray, List.set_cons_zero, List.set_cons_succ]
    refine wpAnyH_take (i := 2) (v := .bool false) (op_at rfl) (by kernel_rfl) (by kernel_rfl) (by kernel_rfl) (fun _ _ _ h => h) (Or.inl ⟨by rfl, fun w hSw => rfl⟩) hHeld ?_
    simp only [Act.put, List.setIfInBounds_toArray, List.set_cons_zero, List.set_cons_succ]
    refine wpAnyH_take (i := 3) (v := .pointer (some ⟨T, 0, none⟩)) (op_at rfl) (by kernel_rfl) (by kernel_rfl) (by kernel_rfl) (fun _ _ _ h => h) (Or.inl ⟨by rfl, fun w hSw => rfl⟩) hHeld ?_
    simp only [Act.put, List.setIfInBounds_toArray, List.set_cons_zero, List.set_cons_succ]
    refine wpAnyH_take (i := 4) (v := .pointer (some ⟨T, 0, none⟩)) (op_at rfl) (by kernel_rfl) (by kernel_rfl) (by kernel_rfl) (fun _ _ _ h => h) (Or.inl ⟨by rfl, fun w hSw => by go_simp⟩) hHeld ?_
    simp only [Act.put, List.setIfInBounds_toArray, List.set_cons_zero, List.set_cons_succ]
    refine wpAnyH_take (i := 5) (v := .pointer (some ⟨T, 17, none⟩)) (op_at rfl) (by kernel_rfl) (by kernel_rfl) (by kernel_rfl) (fun _ _ _ h => h) (Or.inl ⟨by rfl, fun w hSw => by go_simp⟩) hHeld ?_
    simp only [Act.put, List.setIfInBounds_toArray, List.set_cons_zero, List.set_cons_succ]
    refine wpAnyH_take (i := 6) (v := .slice (some ⟨sb, so, none⟩) (m + 1) sc) (op_at rfl) (by kernel_rfl) (by kernel_rfl) (by kernel_rfl) (fun _ _ _ h => h) (Or.inl ⟨by rfl, fun w hSw => by have := hSw.tab.succs; go_simp⟩) hHeld ?_
    simp only [Act.put, List.setIfInBounds_toArray, List.set_cons_zero, List.set_cons_succ]
    refine wpAnyH_take (i := 7) (v := .pointer (some ⟨T, 0, none⟩)) (op_at rfl) (by kernel_rfl) (by kernel_rfl) (by kernel_rfl) (fun _ _ _ h => h) (Or.inl ⟨by rfl, fun w hSw => rfl⟩) hHeld ?_
    simp only [Act.put, List.setIfInBounds_toArray, List.set_cons_zero, List.set_cons_succ]
    refine wpAnyH_take (i := 8) (v := .pointer (some ⟨T, 0, none⟩)) (op_at rfl) (by kernel_rfl) (by kernel_rfl) (by kernel_rfl) (fun _ _ _ h => h) (Or.inl ⟨by rfl, fun w hSw => by go_simp⟩) hHeld ?_
    simp only [Act.put, List.setIfInBounds_toArray, List.set_cons_zero, List.set_cons_succ]
    refine wpAnyH_take (i := 9) (v := .pointer (some ⟨T, 16, none⟩)) (op_at rfl) (by kernel_rfl) (by kernel_rfl) (by kernel_rfl) (fun _ _ _ h => h) (Or.inl ⟨by rfl, fun w hSw => by go_simp⟩) hHeld ?_
    simp only [Act.put, List.setIfInBounds_toArray, List.set_cons_zero, List.set_cons_succ]
    refine wpAnyH_take (i := 10) (v := .slice (some ⟨pb, po, none⟩) pn pc) (op_at rfl) (by kernel_rfl) (by kernel_rfl) (by kernel_rfl) (fun _ _ _ h => h) (Or.inl ⟨by rfl, fun w hSw => by have := hSw.tab.preds; go_simp⟩) hHeld ?_
    simp only [Act.put, List.setIfInBounds_toArray, List.set_cons_zero, List.set_cons_succ]
    refine wpAnyH_take (i := 11) (v := .int .i64 ((m : Int) + 1)) (op_at rfl) (by kernel_rfl) (by kernel_rfl) (by kernel_rfl) (fun _ _ _ h => h) (Or.inl ⟨by rfl, fun w hSw => rfl⟩) hHeld ?_
    simp only [Act.put, List.setIfInBounds_toArray, List.set_cons_zero, List.set_cons_succ]
    refine wpAnyH_take (i := 12) (v := .int .i64 (m : Int)) (op_at rfl) (by kernel_rfl) (by kernel_rfl) (by kernel_rfl) (fun _ _ _ h => h) (Or.inl ⟨by rfl, fun w hSw => by go_simp⟩) hHeld ?_
    simp only [Act.put, List.setIfInBounds_toArray, List.set_cons_zero, List.set_cons_succ]
    refine wpAnyH_take (i := 13) (v := .pointer (some ⟨pb, po + m * 16, none⟩)) (op_at rfl) (by kernel_rfl) (by kernel_rfl) (by kernel_rfl) (fun _ _ _ h => h) (Or.inl ⟨by rfl, fun w hSw => by go_simp⟩) hHeld ?_
    simp only [Act.put, List.setIfInBounds_toArray, List.set_cons_zero, List.set_cons_succ]
    refine wpAnyH_take (i := 14) (v := .agg (bs p)) (op_at rfl) (by kernel_rfl) (by kernel_rfl) (by kernel_rfl) (fun _ _ _ h => h) (yldm (by rfl) 27 _ rfl .b pb (po + m * 16) rfl p (fun _ h => h.pred.range HP.out)) hHeld ?_
    simp only [Act.put, List.setIfInBounds_toArray, List.set_cons_zero, List.set_cons_succ]
    refine wpAnyH_ready (rs := [15]) (by kernel_rfl) (by simp) ?_
    refine AllReadyH.cons (op_at rfl) (fun K hK => ?_) AllReadyH.nil
    go_simp
    rw [← HL.out]
    refine (contains_any (some ⟨sb, so, none⟩) sc S p hpM hS (by have := HL.out; omega) _ hHeld.succ).mono ?_
    rintro e w5 ⟨rfl, hb5⟩
    refine hK.out _ _ (hHeld.then hb5) (fun hHeld' => ?_)
    clear hK K hHeld
    have hHeld := hHeld'
    clear hHeld'
    try simp only [Act.put, List.setIfInBounds_toArray, List.set_cons_zero, List.set_cons_succ]
    rw [hc]
  case false =>
    refine wpAnyH_take (i := 16) (v := .bool false) (op_at rfl) (by kernel_rfl) (by kernel_rfl) (by kernel_rfl) (fun _ _ _ h => h) (Or.inl ⟨by rfl, fun w hSw => by go_simp⟩) hHeld ?_
    simp only [Act.put, List.setIfInBounds_toArray, List.set_cons_zero, List.set_cons_succ]
    refine wpAnyH_done (by kernel_rfl) ?_ _
    go_wp2
    refine wp_region_held_drew (S := SC w T s (some ⟨pb, po, none⟩) pn pc (some ⟨sb, so, none⟩) (m + 1) sc P S k) (by kernel_rfl) hHeld.drew (fun hHeld' => ?_)
    clear hHeld
    have hHeld := hHeld'
    clear hHeld'
    refine wpAnyH_take (i := 0) (v := .pointer (some ⟨T, 0, none⟩)) (op_at rfl) (by kernel_rfl) (by kernel_rfl) (by kernel_rfl) (fun _ _ _ h => h) (Or.inl ⟨by rfl, fun w hSw => rfl⟩) hHeld ?_
    simp only [Act.put, List.setIfInBounds_toArray, List.set_cons_zero, List.set_cons_succ]
    refine wpAnyH_take (i := 1) (v := .pointer (some ⟨T, 0, none⟩)) (op_at rfl) (by kernel_rfl) (by kernel_rfl) (by kernel_rfl) (fun _ _ _ h => h) (Or.inl ⟨by rfl, fun w hSw => by go_simp⟩) hHeld ?_
    simp only [Act.put, List.setIfInBounds_toArray, List.set_cons_zero, List.set_cons_succ]
    refine wpAnyH_take (i := 2) (v := .pointer (some ⟨T, 16, none⟩)) (op_at rfl) (by kernel_rfl) (by kernel_rfl) (by kernel_rfl) (fun _ _ _ h => h) (Or.inl ⟨by rfl, fun w hSw => by go_simp⟩) hHeld ?_
    simp only [Act.put, List.setIfInBounds_toArray, List.set_cons_zero, List.set_cons_succ]
    refine wpAnyH_take (i := 3) (v := .slice (some ⟨pb, po, none⟩) pn pc) (op_at rfl) (by kernel_rfl) (by kernel_rfl) (by kernel_rfl) (fun _ _ _ h => h) (Or.inl ⟨by rfl, fun w hSw => by have := hSw.tab.preds; go_simp⟩) hHeld ?_
    simp only [Act.put, List.setIfInBounds_toArray, List.set_cons_zero, List.set_cons_succ]
    refine wpAnyH_take (i := 4) (v := .int .i64 ((m : Int) + 1)) (op_at rfl) (by kernel_rfl) (by kernel_rfl) (by kernel_rfl) (fun _ _ _ h => h) (Or.inl ⟨by rfl, fun w hSw => rfl⟩) hHeld ?_
    simp only [Act.put, List.setIfInBounds_toArray, List.set_cons_zero, List.set_cons_succ]
    refine wpAnyH_take (i := 5) (v := .int .i64 (m : Int)) (op_at rfl) (by kernel_rfl) (by kernel_rfl) (by kernel_rfl) (fun _ _ _ h => h) (Or.inl ⟨by rfl, fun w hSw => by go_simp⟩) hHeld ?_
    simp only [Act.put, List.setIfInBounds_toArray, List.set_cons_zero, List.set_cons_succ]
    refine wpAnyH_take (i := 6) (v := .pointer (some ⟨pb, po + m * 16, none⟩)) (op_at rfl) (by kernel_rfl) (by kernel_rfl) (by kernel_rfl) (fun _ _ _ h => h) (Or.inl ⟨by rfl, fun w hSw => by go_simp⟩) hHeld ?_
    simp only [Act.put, List.setIfInBounds_toArray, List.set_cons_zero, List.set_cons_succ]
    refine wpAnyH_take (i := 7) (v := .agg (bs p)) (op_at rfl) (by kernel_rfl) (by kernel_rfl) (by kernel_rfl) (fun _ _ _ h => h) (yldm (by rfl) 27 _ rfl .b pb (po + m * 16) rfl p (fun _ h => h.pred.range HP.out)) hHeld ?_
    simp only [Act.put, List.setIfInBounds_toArray, List.set_cons_zero, List.set_cons_succ]
    refine wpAnyH_take (i := 8) (v := .agg (bs k)) (op_at rfl) (by kernel_rfl) (by kernel_rfl) (by kernel_rfl) (fun _ _ _ h => h) (yld (by rfl) 27 _ rfl .b w.heap.size rfl k 27 (fun _ h => h.key)) hHeld ?_
    simp only [Act.put, List.setIfInBounds_toArray, List.set_cons_zero, List.set_cons_succ]
    refine wpAnyH_take (i := 9) (v := .pointer (some ⟨T, 0, none⟩)) (op_at rfl) (by kernel_rfl) (by kernel_rfl) (by kernel_rfl) (fun _ _ _ h => h) (Or.inl ⟨by rfl, fun w hSw => rfl⟩) hHeld ?_
    simp only [Act.put, List.setIfInBounds_toArray, List.set_cons_zero, List.set_cons_succ]
    refine wpAnyH_take (i := 10) (v := .pointer (some ⟨T, 0, none⟩)) (op_at rfl) (by kernel_rfl) (by kernel_rfl) (by kernel_rfl) (fun _ _ _ h => h) (Or.inl ⟨by rfl, fun w hSw => by go_simp⟩) hHeld ?_
    simp only [Act.put, List.setIfInBounds_toArray, List.set_cons_zero, List.set_cons_succ]
    refine wpAnyH_take (i := 11) (v := .pointer (some ⟨T, 17, none⟩)) (op_at rfl) (by kernel_rfl) (by kernel_rfl) (by kernel_rfl) (fun _ _ _ h => h) (Or.inl ⟨by rfl, fun w hSw => by go_simp⟩) hHeld ?_
    simp only [Act.put, List.setIfInBounds_toArray, List.set_cons_zero, List.set_cons_succ]
    refine wpAnyH_take (i := 12) (v := .slice (some ⟨sb, so, none⟩) (m + 1) sc) (op_at rfl) (by kernel_rfl) (by kernel_rfl) (by kernel_rfl) (fun _ _ _ h => h) (Or.inl ⟨by rfl, fun w hSw => by have := hSw.tab.succs; go_simp⟩) hHeld ?_
    simp only [Act.put, List.setIfInBounds_toArray, List.set_cons_zero, List.set_cons_succ]
    refine wpAnyH_take (i := 13) (v := .int .i64 ((m : Int) + 1)) (op_at rfl) (by kernel_rfl) (by kernel_rfl) (by kernel_rfl) (fun _ _ _ h => h) (Or.inl ⟨by rfl, fun w hSw => rfl⟩) hHeld ?_
    simp only [Act.put, List.setIfInBounds_toArray, List.set_cons_zero, List.set_cons_succ]
    refine wpAnyH_take (i := 14) (v := .int .i64 (m : Int)) (op_at rfl) (by kernel_rfl) (by kernel_rfl) (by kernel_rfl) (fun _ _ _ h => h) (Or.inl ⟨by rfl, fun w hSw => by go_simp⟩) hHeld ?_
    simp only [Act.put, List.setIfInBounds_toArray, List.set_cons_zero, List.set_cons_succ]
    refine wpAnyH_take (i := 15) (v := .pointer (some ⟨sb, so + m * 16, none⟩)) (op_at rfl) (by kernel_rfl) (by kernel_rfl) (by kernel_rfl) (fun _ _ _ h => h) (Or.inl ⟨by rfl, fun w hSw => by go_simp⟩) hHeld ?_
    simp only [Act.put, List.setIfInBounds_toArray, List.set_cons_zero, List.set_cons_succ]
    refine wpAnyH_take (i := 16) (v := .agg (bs q)) (op_at rfl) (by kernel_rfl) (by kernel_rfl) (by kernel_rfl) (fun _ _ _ h => h) (yldm (by rfl) 27 _ rfl .b sb (so + m * 16) rfl q (fun _ h => h.succ.range HQ.out)) hHeld ?_
    simp only [Act.put, List.setIfInBounds_toArray, List.set_cons_zero, List.set_cons_succ]
    refine wpAnyH_ready (rs := [17]) (by kernel_rfl) (by simp) ?_
    refine AllReadyH.cons (op_at rfl) (fun K hK => ?_) AllReadyH.nil
    go_simp
    refine (within_any p k q hpM hk hqM _).mono ?_
    rintro e w6 ⟨rfl, hb6⟩
    refine hK.out _ _ (hHeld.then hb6) (fun hHeld' => ?_)
    clear hK K hHeld
    have hHeld := hHeld'
    clear hHeld'
    try simp only [Act.put, List.setIfInBounds_toArray, List.set_cons_zero, List.set_cons_succ]
    refine wpAnyH_take (i := 18) (v := .bool (wth p k q)) (op_at rfl) (by kernel_rfl) (by kernel_rfl) (by kernel_rfl) (fun _ _ _ h => h) (Or.inl ⟨by rfl, fun w hSw => rfl⟩) hHeld ?_
    simp only [Act.put, List.setIfInBounds_toArray, List.set_cons_zero, List.set_cons_succ]
    refine wpAnyH_done (by kernel_rfl) ?_ _
    go_wp2
    go_ret
    exact ⟨ret_bool (by rw [hc, Bool.false_or]), hHeld.below⟩
  case true =>
    refine wpAnyH_take (i := 16) (v := .bool true) (op_at rfl) (by kernel_rfl) (by kernel_rfl) (by kernel_rfl) (fun _ _ _ h => h) (Or.inl ⟨by rfl, fun w hSw => by go_simp⟩) hHeld ?_
    simp only [Act.put, List.setIfInBounds_toArray, List.set_cons_zero, List.set_cons_succ]
    refine wpAnyH_done (by kernel_rfl) ?_ _
    go_wp2
    go_ret
    exact ⟨ret_bool (by rw [hc, Bool.true_or]), hHeld.below⟩

/-- What 'covers' answers for k over the predecessors P and the successors S. -/
def cov (P S : List Nat) (k : Nat) : Bool := if S = [] then true else S.contains (P.getD (S.length - 1) 0) || wth (P.getD (S.length - 1) 0) k (S.getD (S.length - 1) 0)
/-- A table in memory, with its neighbours. -/
structure TabL (w : World) (T s : Nat) (P S : List Nat) (pa : Option Addr) (pc : Nat) (sa : Option Addr) (sc : Nat) : Prop where
  tab : Tab w T s pa P.length pc sa S.length sc
  pred : Seq w pa P
  succ : Seq w sa S
  pM : ∀ n ∈ P, n < M128
  sM : ∀ n ∈ S, n < M128
  le : S.length ≤ P.length
  len : S.length ≤ 2 ^ 20
theorem TabL.kept {w w1 : World} {T s : Nat} {P S : List Nat} {pa : Option Addr} {pc : Nat} {sa : Option Addr} {sc : Nat} (h : TabL w T s P S pa pc sa sc) (hb : Below w.heap.size w w1) : TabL w1 T s P S pa pc sa sc :=
  ⟨h.tab.kept hb, h.pred.kept hb, h.succ.kept hb, h.pM, h.sM, h.le, h.len⟩
theorem covers_any (T s k : Nat) (P S : List Nat) (pa : Option Addr) (pc : Nat) (sa : Option Addr) (sc : Nat) (hk : k < M128) (w : World) (h : TabL w T s P S pa pc sa sc) :
    Calls Try.prog 17 #[.pointer (some ⟨T, 0, none⟩), .agg (bs k)] w fun e w' => e = .returned (.bool (cov P S k)) ∧ Below w.heap.size w w' := by
  by_cases hS : S = []
  · have := covers_none T s pa P.length pc sa sc k w (by have := h.tab; rw [hS] at this; exact this)
    rw [show cov P S k = true by unfold cov; rw [if_pos hS]]
    exact this
  · have hl : 0 < S.length := List.length_pos_iff.2 hS
    obtain ⟨m, hm⟩ : ∃ m, S.length = m + 1 := ⟨S.length - 1, by omega⟩
    have hle := h.le
    have hlen := h.len
    have hp : P[m]? = some (P.getD m 0) := by rw [List.getD_eq_getElem?_getD, List.getElem?_eq_getElem (by omega)]; rfl
    have hq : S[m]? = some (S.getD m 0) := by rw [List.getD_eq_getElem?_getD, List.getElem?_eq_getElem (by omega)]; rfl
    rw [show cov P S k = (S.contains (P.getD m 0) || wth (P.getD m 0) k (S.getD m 0)) by unfold cov; rw [if_neg hS, hm]; rfl]
    exact covers_some T s pa P.length pc sa m sc k P S _ _ h.pM h.sM hk hm (by omega) (by omega) hp hq w (by have := h.tab; rw [hm] at this; exact this) h.pred h.succ
end Go.Proofs.Qxb6631297a
