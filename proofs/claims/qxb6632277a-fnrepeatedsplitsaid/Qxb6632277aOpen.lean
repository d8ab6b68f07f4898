/-
  THE ARGUMENT OPENED: the cells of one attempt handed in; its strings.
-/
import Derived.Test.Qxb6632277aStrs
import Derived.ProofKit
import Derived.OpenShut
import Derived.ChangeOld
import Derived.Deep.Slices
import Derived.SliceStrings
namespace Go.Proofs.Qxb6632277a
open Go.ChangeShapes Go.WideShapes Go.ChangeAt Go.RowKit
theorem own : ownKnob Try.prog.godebug = none := by kernel_rfl
theorem laidOut : laidOutB Try.prog = true := by kernel_rfl
theorem Try.cells62 : Try.prog.cellsOf 62 = 11 := by kernel_rfl
theorem Try.cells9 : Try.prog.cellsOf 9 = 1 := by kernel_rfl
theorem Try.cells3 : Try.prog.cellsOf 3 = 1 := by kernel_rfl
theorem Try.cells2 : Try.prog.cellsOf 2 = 1 := by kernel_rfl
theorem Try.cells4 : Try.prog.cellsOf 4 = 1 := by kernel_rfl
theorem Try.cells46 : Try.prog.cellsOf 46 = 1 := by kernel_rfl
section
variable {H : Type} {enc : TypeId × Value → H} {w : World} {base : Nat} {spare : Nat → Bool} {held : Bool}
theorem one_cell {cs : List Value} {i k : Nat} {v : Value} (h : (cs.drop i).take k = [v]) (hk : k = 1) : cs[i]? = some v := by
  subst hk
  have := congrArg (·[0]?) h
  simpa using this
theorem open_sl {fuel : Nat} {cs : List Value} {x : DataW H × List MemPlace} (h : DataW.trod enc Try.prog w base spare held fuel 46 cs = some x) : ∃ v nl L, cs = [v] ∧ SL w v nl L ∧ L.length ≤ maxLen := by
  rcases open_strings Try.underlying46 Try.underlying9 Try.cells9 h with ⟨rfl, _⟩ | ⟨x, len, cap, ss, rfl, _, hl, hm, hsl, _, hc, _⟩
  · exact ⟨_, true, [], rfl, ⟨none, 0, rfl, rfl, .inl rfl⟩, by simp [maxLen]⟩
  · have hls : len ≤ ss.length := by rw [hsl]; split <;> omega
    have htl : (ss.take len).length = len := by simp; omega
    refine ⟨_, false, ss.take len, rfl, ⟨some x, cap, by rw [htl], rfl, ?_⟩, by rw [htl]; omega⟩
    by_cases h0 : len = 0
    · left; rw [h0]; rfl
    · right
      obtain ⟨b, off, spot⟩ := x
      have hspot : spot = none := by
        have := hc 0 (by omega)
        simpa [Addr.add] using World.cell?_spot this
      subst hspot
      refine ⟨b, off, rfl, fun i s hi => ?_⟩
      have hil : i < len := by have := (List.getElem?_eq_some_iff.1 hi).1; omega
      have := hc i (by omega)
      rw [Addr.add_mid] at this
      rw [this]
      rw [List.getElem?_take_of_lt hil] at hi
      rw [List.getD_eq_getElem?_getD, hi]
      rfl
theorem open_att {fuel : Nat} {cs : List Value} {x : DataW H × List MemPlace} (h : DataW.trod enc Try.prog w base spare held fuel 62 cs = some x) : ∃ (a : Rec) (nl : Bool) (L : List ByteArray), cs = (aa a).toList ∧ SL w a.ans nl L ∧ L.length ≤ maxLen := by
  obtain ⟨xs, n, _, _, hl, hxl, hel⟩ := DataW.trod_struct Try.underlying62 h
  rw [Try.cells62] at hl
  have hx : ∀ i, i < 11 → ∃ y, xs[i]? = some y := fun i hi => ⟨_, List.getElem?_eq_getElem (by rw [hxl]; exact hi)⟩
  obtain ⟨y0, hy0⟩ := hx 0 (by omega)
  obtain ⟨y1, hy1⟩ := hx 1 (by omega)
  obtain ⟨y2, hy2⟩ := hx 2 (by omega)
  obtain ⟨y3, hy3⟩ := hx 3 (by omega)
  obtain ⟨y4, hy4⟩ := hx 4 (by omega)
  obtain ⟨y5, hy5⟩ := hx 5 (by omega)
  obtain ⟨y6, hy6⟩ := hx 6 (by omega)
  obtain ⟨y7, hy7⟩ := hx 7 (by omega)
  obtain ⟨y8, hy8⟩ := hx 8 (by omega)
  obtain ⟨y9, hy9⟩ := hx 9 (by omega)
  obtain ⟨y10, hy10⟩ := hx 10 (by omega)
  obtain ⟨s0, c0, _, _⟩ := DataW.trod_string Try.underlying9 ((hel 0 _ rfl).trans hy0)
  obtain ⟨n1, c1, _, _⟩ := DataW.trod_int Try.underlying3 ((hel 1 _ rfl).trans hy1)
  obtain ⟨n2, c2, _, _⟩ := DataW.trod_int Try.underlying2 ((hel 2 _ rfl).trans hy2)
  obtain ⟨n3, c3, _, _⟩ := DataW.trod_int Try.underlying2 ((hel 3 _ rfl).trans hy3)
  obtain ⟨b4, c4, _⟩ := DataW.trod_bool Try.underlying4 ((hel 4 _ rfl).trans hy4)
  obtain ⟨s5, c5, _, _⟩ := DataW.trod_string Try.underlying9 ((hel 5 _ rfl).trans hy5)
  obtain ⟨s6, c6, _, _⟩ := DataW.trod_string Try.underlying9 ((hel 6 _ rfl).trans hy6)
  obtain ⟨s7, c7, _, _⟩ := DataW.trod_string Try.underlying9 ((hel 7 _ rfl).trans hy7)
  obtain ⟨s8, c8, _, _⟩ := DataW.trod_string Try.underlying9 ((hel 8 _ rfl).trans hy8)
  obtain ⟨n9, c9, _, _⟩ := DataW.trod_int Try.underlying3 ((hel 9 _ rfl).trans hy9)
  obtain ⟨v, nl, L, c10, hsl, hL⟩ := open_sl ((hel 10 _ rfl).trans hy10)
  refine ⟨⟨s0, n1, b4, s5, s6, s7, n9, s8, v, n2, n3, .slice none 0 0⟩, nl, L, ?_, hsl, hL⟩
  apply List.ext_getElem?
  intro i
  have e0 := one_cell c0 Try.cells9; have e1 := one_cell c1 Try.cells3; have e2 := one_cell c2 Try.cells2; have e3 := one_cell c3 Try.cells2; have e4 := one_cell c4 Try.cells4; have e5 := one_cell c5 Try.cells9; have e6 := one_cell c6 Try.cells9; have e7 := one_cell c7 Try.cells9; have e8 := one_cell c8 Try.cells9; have e9 := one_cell c9 Try.cells3; have e10 := one_cell c10 Try.cells46
  match i with
  | 0 => exact e0
  | 1 => exact e1
  | 2 => exact e2
  | 3 => exact e3
  | 4 => exact e4
  | 5 => exact e5
  | 6 => exact e6
  | 7 => exact e7
  | 8 => exact e8
  | 9 => exact e9
  | 10 => exact e10
  | i + 11 => rw [List.getElem?_eq_none (by omega), List.getElem?_eq_none (by simp [aa, al])]
theorem choose3 {α β γ : Type} [Inhabited α] [Inhabited β] [Inhabited γ] {n : Nat} {P : Nat → α → β → γ → Prop} (h : ∀ i, i < n → ∃ a b c, P i a b c) : ∃ (f : Nat → α) (g : Nat → β) (k : Nat → γ), ∀ i, i < n → P i (f i) (g i) (k i) := by
  have h2 : ∀ i, i < n → ∃ x : α × β × γ, P i x.1 x.2.1 x.2.2 := fun i hi => by
    obtain ⟨a, b, c, hp⟩ := h i hi
    exact ⟨(a, b, c), hp⟩
  obtain ⟨f, hf⟩ := Go.Deep.choose_lt h2
  exact ⟨fun i => (f i).1, fun i => (f i).2.1, fun i => (f i).2.2, hf⟩
instance : Inhabited Rec := ⟨r0⟩
/-- What came in: the attempts A. -/
structure AIn (w : World) (a : Option Addr) (n cap : Nat) (A : List Rec) (nl : Nat → Bool) (Ls : Nat → List ByteArray) : Prop where
  len : A.length = n
  max : n ≤ maxLen
  nil : a = none → n = 0 ∧ cap = 0
  cells : A = [] ∨ ∃ b off, a = some ⟨b, off, none⟩ ∧ ∀ (i : Nat) (r : Rec), A[i]? = some r → w.rangeAt b (off + i * 11) (aa r).toList
  strs : ∀ (i : Nat) (r : Rec), A[i]? = some r → SL w r.ans (nl i) (Ls i) ∧ (Ls i).length ≤ maxLen
theorem open_atts {r : Reach} {b' : Nat} {v : Value} {d : DataW H} {p : List MemPlace} (hv : Value.okWide Try.prog w r b' 22 v) (h : DataW.Trod enc Try.prog w base spare held 22 v d p) :
    ∃ a n cap A nl Ls, v = .slice a n cap ∧ AIn w a n cap A nl Ls := by
  obtain ⟨a, len, cap, rfl⟩ := okWide_slice Try.underlying22 hv
  obtain ⟨fuel, hf⟩ := h
  rcases Go.Deep.open_slice Try.underlying22 hf with ⟨hcs, _⟩ | ⟨x, l, c, m, n, D, Pl, hcs, _, hl, hm, hmm, _, hel⟩
  · simp [Value.cells] at hcs
    obtain ⟨rfl, rfl, rfl⟩ := hcs
    exact ⟨none, 0, 0, [], fun _ => false, fun _ => [], rfl, ⟨rfl, by unfold maxLen; omega, fun _ => ⟨rfl, rfl⟩, .inl rfl, fun i r hi => by simp at hi⟩⟩
  · simp [Value.cells] at hcs
    obtain ⟨rfl, rfl, rfl⟩ := hcs
    have hlm : len ≤ m := by rw [hmm]; split <;> omega
    have hc : ∀ i, i < len → ∃ (a : Rec) (nl : Bool) (L : List ByteArray), w.cells? base (x.add (i * 11)) 11 = some (aa a).toList ∧ SL w a.ans nl L ∧ L.length ≤ maxLen := by
      intro i hi
      obtain ⟨cs', h1, h2⟩ := hel i (by omega)
      rw [Try.cells62] at h1
      obtain ⟨a, nl, L, rfl, h3, h4⟩ := open_att h2
      exact ⟨a, nl, L, h1, h3, h4⟩
    obtain ⟨f, nl, Ls, hf'⟩ := choose3 hc
    have hget : ∀ (i : Nat) (r : Rec), ((List.range len).map f)[i]? = some r → i < len ∧ r = f i := by
      intro i r hi
      have hil : i < len := by have := (List.getElem?_eq_some_iff.1 hi).1; simpa using this
      refine ⟨hil, ?_⟩
      simpa [hil] using hi.symm
    refine ⟨some x, len, cap, (List.range len).map f, nl, Ls, rfl, ⟨by simp, by omega, fun h => (by cases h), ?_, fun i r hi => ?_⟩⟩
    · by_cases h0 : len = 0
      · subst h0; exact .inl rfl
      · right
        obtain ⟨b, off, spot⟩ := x
        have hcell : ∀ i, i < len → ∀ j u, (aa (f i)).toList[j]? = some u → w.cell? ((⟨b, off, spot⟩ : Addr).add (i * 11 + j)) = some u := by
          intro i hi j u hu
          have hj : j < 11 := by have := (List.getElem?_eq_some_iff.1 hu).1; simpa [aa, al] using this
          obtain ⟨_, _, hcc⟩ := World.cells?_some (hf' i hi).1
          have := hcc j hj
          rw [← Go.Deep.add_add, this, hu]
        have hspot : spot = none := by
          have := hcell 0 (by omega) 0 _ rfl
          simpa [Addr.add] using World.cell?_spot this
        subst hspot
        refine ⟨b, off, rfl, fun i k hi j u hu => ?_⟩
        obtain ⟨hil, rfl⟩ := hget i k hi
        have := hcell i hil j u hu
        rwa [Addr.add_mid, ← Nat.add_assoc] at this
    · obtain ⟨hil, rfl⟩ := hget i r hi
      exact (hf' i hil).2
end
end Go.Proofs.Qxb6632277a
