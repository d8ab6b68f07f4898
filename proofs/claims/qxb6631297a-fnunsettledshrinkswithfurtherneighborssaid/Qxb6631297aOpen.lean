/-
  THE ARGUMENTS OPENED: an array of sixteen bytes is some 'bs n'; a slice of such arrays holds some list of identifiers.
-/
import Derived.Test.Qxb6631297aExactWalk
import Derived.ProofKit
import Derived.OpenShut
import Derived.ChangeOld
import Derived.Deep.Slices
namespace Go.Proofs.Qxb6631297a
open Go.ChangeShapes Go.WideShapes Go.ChangeAt Go.RowKit

theorem own : ownKnob Try.prog.godebug = none := by kernel_rfl
theorem laidOut : laidOutB Try.prog = true := by kernel_rfl
theorem Try.cells5 : Try.prog.cellsOf 5 = 1 := by kernel_rfl
theorem Try.cells22 : Try.prog.cellsOf 22 = 16 := by kernel_rfl

/-- Whatever sixteen bytes: they write a number. -/
theorem num_of (z : Nat → Nat) (hz : ∀ k, z k < 256) : ∀ k, ∃ n, n < 256 ^ k ∧ ∀ j, j < k → by8 n j = z j
  | 0 => ⟨0, by simp, fun j hj => by omega⟩
  | k + 1 => by
    obtain ⟨n, hn, hj⟩ := num_of z hz k
    have hM : 0 < 256 ^ k := Nat.pow_pos (by decide)
    have e1 : (n + 256 ^ k * z k) % 256 ^ k = n := by rw [Nat.add_mul_mod_self_left, Nat.mod_eq_of_lt hn]
    refine ⟨n + 256 ^ k * z k, ?_, fun j hlt => ?_⟩
    · rw [Nat.pow_succ]
      have h1 : 256 ^ k * z k ≤ 256 ^ k * 255 := Nat.mul_le_mul_left _ (by have := hz k; omega)
      omega
    · by_cases e : j = k
      · subst e
        unfold by8
        rw [Nat.add_mul_div_left _ _ hM, Nat.div_eq_of_lt hn, Nat.zero_add, Nat.mod_eq_of_lt (hz j)]
      · rw [← by8_mod_lo _ k j (by omega), e1]
        exact hj j (by omega)

section
variable {H : Type} {enc : TypeId × Value → H} {w : World} {base : Nat} {spare : Nat → Bool} {held : Bool}
/-- Sixteen cells that read as an array of bytes. -/
theorem open_cells {fuel : Nat} {cs : List Value} {x : DataW H × List MemPlace} (h : DataW.trod enc Try.prog w base spare held fuel 22 cs = some x) : ∃ n, n < M128 ∧ cs = bl n := by
  obtain ⟨xs, m, _, _, hl, hxl, hel⟩ := DataW.trod_array Try.underlying22 h
  rw [Try.cells22] at hl
  have hc : ∀ i, i < 16 → ∃ z : Nat, z < 256 ∧ cs[i]? = some (.int .u8 (z : Int)) := by
    intro i hi
    have := hel i hi
    rw [Try.cells5, Nat.mul_one, List.getElem?_eq_getElem (by omega)] at this
    obtain ⟨n, hn, _, hw⟩ := DataW.trod_int Try.underlying5 this
    have e1 : IntKind.u8.min = 0 := rfl
    have e2 : IntKind.u8.max = 255 := rfl
    simp [Lit.wf, e1, e2] at hw
    refine ⟨n.toNat, by omega, ?_⟩
    have h0 := congrArg (·[0]?) hn
    simp at h0
    rw [h0]
    congr 2
    omega
  obtain ⟨f, hf⟩ := Go.Deep.choose_lt hc
  obtain ⟨n, hn, hb⟩ := num_of (fun k => if k < 16 then f (15 - k) else 0) (fun k => by
    show (if k < 16 then f (15 - k) else 0) < 256
    split
    · exact (hf _ (by omega)).1
    · decide) 16
  refine ⟨n, by rw [M128_eq]; exact hn, ?_⟩
  apply List.ext_getElem?
  intro i
  by_cases hi : i < 16
  · rw [bl_get n i hi, hb (15 - i) (by omega), (hf i hi).2]
    simp only [show 15 - i < 16 by omega, if_true, show 15 - (15 - i) = i by omega]
  · rw [List.getElem?_eq_none (by omega), List.getElem?_eq_none (by rw [bl_length]; omega)]
theorem open_arr {r : Reach} {b' : Nat} {v : Value} {d : DataW H} {p : List MemPlace} (hv : Value.okWide Try.prog w r b' 22 v) (h : DataW.Trod enc Try.prog w base spare held 22 v d p) : ∃ n, n < M128 ∧ v = .agg (bs n) := by
  simp only [Value.okWide, Try.underlying22] at hv
  obtain ⟨cs, rfl, _, _⟩ := hv
  obtain ⟨fuel, hf⟩ := h
  obtain ⟨n, hn, e⟩ := open_cells hf
  refine ⟨n, hn, ?_⟩
  simp only [Value.cells] at e
  rw [bs, ← e]
theorem open_arrs {r : Reach} {b' : Nat} {v : Value} {d : DataW H} {p : List MemPlace} (hv : Value.okWide Try.prog w r b' 23 v) (h : DataW.Trod enc Try.prog w base spare held 23 v d p) :
    ∃ a n cap L, v = .slice a n cap ∧ InL w a n cap L := by
  obtain ⟨a, len, cap, rfl⟩ := okWide_slice Try.underlying23 hv
  obtain ⟨fuel, hf⟩ := h
  rcases Go.Deep.open_slice Try.underlying23 hf with ⟨hcs, _⟩ | ⟨x, l, c, m, n, D, Pl, hcs, _, hl, hm, hmm, _, hel⟩
  · simp [Value.cells] at hcs
    obtain ⟨rfl, rfl, rfl⟩ := hcs
    exact ⟨none, 0, 0, [], rfl, ⟨rfl, by unfold maxLen; omega, fun _ => ⟨rfl, rfl⟩, .inl rfl, fun _ h => by cases h⟩⟩
  · simp [Value.cells] at hcs
    obtain ⟨rfl, rfl, rfl⟩ := hcs
    have hlm : len ≤ m := by rw [hmm]; split <;> omega
    have hc : ∀ i, i < len → ∃ k : Nat, k < M128 ∧ w.cells? base (x.add (i * 16)) 16 = some (bl k) := by
      intro i hi
      obtain ⟨cs', h1, h2⟩ := hel i (by omega)
      rw [Try.cells22] at h1
      obtain ⟨k, hk, rfl⟩ := open_cells h2
      exact ⟨k, hk, h1⟩
    obtain ⟨f, hf'⟩ := Go.Deep.choose_lt hc
    refine ⟨some x, len, cap, (List.range len).map f, rfl, ⟨by simp, by omega, fun h => (by cases h), ?_, fun y hy => ?_⟩⟩
    · by_cases h0 : len = 0
      · subst h0; exact .inl rfl
      · right
        obtain ⟨b, off, spot⟩ := x
        have hcell : ∀ i, i < len → ∀ j u, (bl (f i))[j]? = some u → w.cell? ((⟨b, off, spot⟩ : Addr).add (i * 16 + j)) = some u := by
          intro i hi j u hu
          have hj : j < 16 := by have := (List.getElem?_eq_some_iff.1 hu).1; rwa [bl_length] at this
          obtain ⟨_, _, hcc⟩ := World.cells?_some (hf' i hi).2
          have := hcc j hj
          rw [← Go.Deep.add_add, this, hu]
        have hspot : spot = none := by
          have := hcell 0 (by omega) 0 _ (bl_get _ 0 (by omega))
          simpa [Addr.add] using World.cell?_spot this
        subst hspot
        refine ⟨b, off, rfl, fun i k hi j u hu => ?_⟩
        have hil : i < len := by have := (List.getElem?_eq_some_iff.1 hi).1; simpa using this
        have : k = f i := by simpa [hil] using hi.symm
        subst this
        have := hcell i hil j u hu
        rwa [add_plain, ← Nat.add_assoc] at this
    · obtain ⟨i, hi, rfl⟩ := List.mem_map.1 hy
      exact (hf' i (by simpa using hi)).1
end
end Go.Proofs.Qxb6631297a
