/-
  WORDS: encoding/binary's Uint64 and PutUint64, math/bits.Add64 and Sub64, nodeid's halves and fromHalves, WALKED.
-/
import Derived.Test.Qxb6631297aBytes
import Derived.Test.Qxb6631297aPlain3
import Derived.Lib.EndianBits
import Derived.Shelf.Spec.BitsCarry
namespace Go.Proofs.Qxb6631297a
open Go.RowKit
theorem or_sum (x0 x1 x2 x3 x4 x5 x6 x7 : Nat) (h0 : x0 < 256) (h1 : x1 < 256) (h2 : x2 < 256) (h3 : x3 < 256) (h4 : x4 < 256) (h5 : x5 < 256) (h6 : x6 < 256) (h7 : x7 < 256) :
    (bits BinOp.or IntKind.u64 (bits BinOp.or IntKind.u64 (bits BinOp.or IntKind.u64 (bits BinOp.or IntKind.u64 (bits BinOp.or IntKind.u64
      (bits BinOp.or IntKind.u64 (bits BinOp.or IntKind.u64 (x7 : Int) ((x6 : Int) * 256)) ((x5 : Int) * 65536)) ((x4 : Int) * 16777216)) ((x3 : Int) * 4294967296)) ((x2 : Int) * 1099511627776)) ((x1 : Int) * 281474976710656)) ((x0 : Int) * 72057594037927936)) =
    ((x7 + 256 * x6 + 65536 * x5 + 16777216 * x4 + 4294967296 * x3 + 1099511627776 * x2 + 281474976710656 * x1 + 72057594037927936 * x0 : Nat) : Int) := by
  simp (disch := omega) only [u64_or8, u64_or16, u64_or24, u64_or32, u64_or40, u64_or48, u64_or56]
  omega
set_option maxHeartbeats 800000 in
theorem u64_any (g o c : Nat) (x0 x1 x2 x3 x4 x5 x6 x7 : Nat) (h0 : x0 < 256) (h1 : x1 < 256) (h2 : x2 < 256) (h3 : x3 < 256) (h4 : x4 < 256) (h5 : x5 < 256) (h6 : x6 < 256) (h7 : x7 < 256) (w : World)
    (c0 : w.cell? ⟨g, o, none⟩ = some (.int .u8 x0)) (c1 : w.cell? ⟨g, o + 1, none⟩ = some (.int .u8 x1)) (c2 : w.cell? ⟨g, o + 2, none⟩ = some (.int .u8 x2)) (c3 : w.cell? ⟨g, o + 3, none⟩ = some (.int .u8 x3))
    (c4 : w.cell? ⟨g, o + 4, none⟩ = some (.int .u8 x4)) (c5 : w.cell? ⟨g, o + 5, none⟩ = some (.int .u8 x5)) (c6 : w.cell? ⟨g, o + 6, none⟩ = some (.int .u8 x6)) (c7 : w.cell? ⟨g, o + 7, none⟩ = some (.int .u8 x7)) :
    Calls Try.prog 33 #[.agg #[], .slice (some ⟨g, o, none⟩) 8 c] w fun e w' =>
      e = .returned (.int .u64 ((x7 + 256 * x6 + 65536 * x5 + 16777216 * x4 + 4294967296 * x3 + 1099511627776 * x2 + 281474976710656 * x1 + 72057594037927936 * x0 : Nat) : Int)) ∧ Below w.heap.size w w' := by
  have hg := block_lt_of_cell c0
  go_enter Try.func33, Try.ntmps33
  go_wp2
  go_quiet (fail)
  go_wp2
  go_ret
  exact ⟨ret_int (or_sum x0 x1 x2 x3 x4 x5 x6 x7 h0 h1 h2 h3 h4 h5 h6 h7), below_drewN ((Below.refl _ _).alloc (Nat.le_refl _) _) _⟩


theorem At.put {w : World} {t g n m : Nat} {o : Nat} {b0 b1 b2 b3 b4 b5 b6 b7 : Value} (h : At w t g n)
    (e : ((((((((bs n).setIfInBounds o b0).setIfInBounds (o + 1) b1).setIfInBounds (o + 2) b2).setIfInBounds (o + 3) b3).setIfInBounds (o + 4) b4).setIfInBounds (o + 5) b5).setIfInBounds (o + 6) b6).setIfInBounds (o + 7) b7 = bs m) :
    At ((((((((w.setCell ⟨g, o, none⟩ b0).setCell ⟨g, o + 1, none⟩ b1).setCell ⟨g, o + 2, none⟩ b2).setCell ⟨g, o + 3, none⟩ b3).setCell ⟨g, o + 4, none⟩ b4).setCell ⟨g, o + 5, none⟩ b5).setCell ⟨g, o + 6, none⟩ b6).setCell ⟨g, o + 7, none⟩ b7) t g m := by
  unfold At at *
  rw [heap_setCell_same _ _ _ _ t _ (heap_setCell_same _ _ _ _ t _ (heap_setCell_same _ _ _ _ t _ (heap_setCell_same _ _ _ _ t _ (heap_setCell_same _ _ _ _ t _ (heap_setCell_same _ _ _ _ t _ (heap_setCell_same _ _ _ _ t _ (heap_setCell_same _ _ _ _ t _ h))))))), e]
theorem grown_setCell {w w1 : World} {g : Nat} (h : w.grownBy w1 (some g)) (j : Nat) (v : Value) : w.grownBy (w1.setCell ⟨g, j, none⟩ v) (some g) :=
  ⟨h.os, h.tape, h.output, by simp [World.setCell]; exact h.size, fun k hk hne => by rw [heap_setCell_other _ _ _ _ (by simpa using hne)]; exact h.block k hk hne⟩
theorem grown_refl (w : World) (r : Option Nat) : w.grownBy w r := ⟨rfl, rfl, rfl, Nat.le_refl _, fun _ _ _ => rfl⟩
theorem grown_alloc {w w1 : World} {r : Option Nat} (h : w.grownBy w1 r) (o : Obj) : w.grownBy (w1.alloc o) r :=
  ⟨h.os, h.tape, h.output, by simp; exact Nat.le_succ_of_le h.size, fun k hk hne => by rw [Below.heap_alloc _ _ _ (Nat.lt_of_lt_of_le hk h.size)]; exact h.block k hk hne⟩
set_option maxHeartbeats 800000 in
theorem put_any (t g n m o c v : Nat) (ho : o + 8 ≤ 16) (hv : v < 18446744073709551616) (w : World) (hA : At w t g n)
    (e : ((((((((bs n).setIfInBounds o (.int .u8 ((v : Int) / 72057594037927936))).setIfInBounds (o + 1) (.int .u8 ((v : Int) / 281474976710656 % 256))).setIfInBounds (o + 2) (.int .u8 ((v : Int) / 1099511627776 % 256))).setIfInBounds (o + 3) (.int .u8 ((v : Int) / 4294967296 % 256))).setIfInBounds (o + 4) (.int .u8 ((v : Int) / 16777216 % 256))).setIfInBounds (o + 5) (.int .u8 ((v : Int) / 65536 % 256))).setIfInBounds (o + 6) (.int .u8 ((v : Int) / 256 % 256))).setIfInBounds (o + 7) (.int .u8 ((v : Int) % 256)) = bs m) :
    Calls Try.prog 34 #[.agg #[], .slice (some ⟨g, o, none⟩) 8 c, .int .u64 v] w fun e w' => e = .returned (.tuple #[]) ∧ At w' t g m ∧ w.grownBy w' (some g) := by
  have c0 := hA.cell (j := o) (by omega)
  have c1 := hA.cell (j := o + 1) (by omega)
  have c2 := hA.cell (j := o + 2) (by omega)
  have c3 := hA.cell (j := o + 3) (by omega)
  have c4 := hA.cell (j := o + 4) (by omega)
  have c5 := hA.cell (j := o + 5) (by omega)
  have c6 := hA.cell (j := o + 6) (by omega)
  have c7 := hA.cell (j := o + 7) (by omega)
  have f := hA.frozen
  have hg := hA.lt
  have E : Hid _ := e
  clear e
  go_enter Try.func34, Try.ntmps34
  go_wp2
  go_end0
  exact ⟨rfl, (hA.put E.out).alloc _, grown_alloc (grown_setCell (grown_setCell (grown_setCell (grown_setCell (grown_setCell (grown_setCell (grown_setCell (grown_setCell (grown_refl _ _) _ _) _ _) _ _) _ _) _ _) _ _) _ _) _ _) _⟩
theorem put_hi (t g n c v : Nat) (hv : v < 18446744073709551616) (w : World) (hA : At w t g n) :
    Calls Try.prog 34 #[.agg #[], .slice (some ⟨g, 0, none⟩) 8 c, .int .u64 v] w fun e w' => e = .returned (.tuple #[]) ∧ At w' t g (v * 18446744073709551616 + loW n) ∧ w.grownBy w' (some g) :=
  put_any t g n _ 0 c v (by omega) hv w hA (put_hi_bytes n v hv)
theorem put_lo (t g n c v : Nat) (hv : v < 18446744073709551616) (w : World) (hA : At w t g n) :
    Calls Try.prog 34 #[.agg #[], .slice (some ⟨g, 8, none⟩) 8 c, .int .u64 v] w fun e w' => e = .returned (.tuple #[]) ∧ At w' t g (hiW n * 18446744073709551616 + v) ∧ w.grownBy w' (some g) :=
  put_any t g n _ 8 c v (by omega) hv w hA (put_lo_bytes n v hv)

theorem u64_hi (t g n c : Nat) (hn : n < M128) (w : World) (hA : At w t g n) :
    Calls Try.prog 33 #[.agg #[], .slice (some ⟨g, 0, none⟩) 8 c] w fun e w' => e = .returned (.int .u64 (hiW n : Int)) ∧ Below w.heap.size w w' := by
  rw [← hi_bytes hn]
  exact u64_any g 0 c _ _ _ _ _ _ _ _ (by8_lt _ _) (by8_lt _ _) (by8_lt _ _) (by8_lt _ _) (by8_lt _ _) (by8_lt _ _) (by8_lt _ _) (by8_lt _ _) w
    (hA.cell (by omega)) (hA.cell (by omega)) (hA.cell (by omega)) (hA.cell (by omega)) (hA.cell (by omega)) (hA.cell (by omega)) (hA.cell (by omega)) (hA.cell (by omega))
theorem u64_lo (t g n c : Nat) (w : World) (hA : At w t g n) :
    Calls Try.prog 33 #[.agg #[], .slice (some ⟨g, 8, none⟩) 8 c] w fun e w' => e = .returned (.int .u64 (loW n : Int)) ∧ Below w.heap.size w w' := by
  rw [← lo_bytes n]
  exact u64_any g 8 c _ _ _ _ _ _ _ _ (by8_lt _ _) (by8_lt _ _) (by8_lt _ _) (by8_lt _ _) (by8_lt _ _) (by8_lt _ _) (by8_lt _ _) (by8_lt _ _) w
    (hA.cell (by omega)) (hA.cell (by omega)) (hA.cell (by omega)) (hA.cell (by omega)) (hA.cell (by omega)) (hA.cell (by omega)) (hA.cell (by omega)) (hA.cell (by omega))

theorem add64 (x y c : Nat) (hc : c ≤ 1) (w : World) :
    (callFunc 28 #[.int .u64 x, .int .u64 y, .int .u64 c]).run Try.prog w =
      .ok (.value (.tuple #[.int .u64 (((x + y + c) % 18446744073709551616 : Nat) : Int), .int .u64 (((x + y + c) / 18446744073709551616 : Nat) : Int)])) w := by
  rw [run_callFunc_extern Try.func28 (by kernel_rfl) (by kernel_rfl) (by kernel_rfl) (e := add64Entry) (by kernel_rfl), run_add64 x y c (by omega) (by omega) (by omega) (by omega)]
  simp only [Result.andThen]
  congr 5 <;> omega
theorem sub64 (x y b : Nat) (hb : b ≤ 1) (w : World) :
    (callFunc 30 #[.int .u64 x, .int .u64 y, .int .u64 b]).run Try.prog w =
      .ok (.value (.tuple #[.int .u64 (((x + 18446744073709551616 - y - b) % 18446744073709551616 : Nat) : Int), .int .u64 ((if x < y + b then 1 else 0 : Nat) : Int)])) w := by
  rw [run_callFunc_extern Try.func30 (by kernel_rfl) (by kernel_rfl) (by kernel_rfl) (e := sub64Entry) (by kernel_rfl), run_sub64 x y b hb]
  rfl
end Go.Proofs.Qxb6631297a
