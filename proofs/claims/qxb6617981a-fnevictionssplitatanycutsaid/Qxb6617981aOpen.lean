/- Seat b6617981a: the arguments opened: a slice of lines. -/
import Derived.Test.Qxb6617981aBase
import Derived.Test.Qxb6617981aWalkB
import Derived.ProofKit
import Derived.Deep.Slices
import Derived.DataShut
namespace Go.Proofs.Qxb6617981a
open Go.RowKit Go.Deep Go.ChangeShapes Go.WideShapes
set_option linter.unusedSimpArgs false
set_option linter.unusedVariables false

theorem list5v (m : List Value) (h : m.length = 5) : ∃ c0 c1 c2 c3 c4, m = [c0, c1, c2, c3, c4] := by
  match m, h with
  | [c0, c1, c2, c3, c4], _ => exact ⟨c0, c1, c2, c3, c4, rfl⟩

theorem Try.cells43 : Try.prog.cellsOf 43 = 5 := by kernel_rfl
theorem Try.cells2 : Try.prog.cellsOf 2 = 1 := by kernel_rfl
theorem Try.cells21 : Try.prog.cellsOf 21 = 1 := by kernel_rfl

section
variable {H : Type} {enc : TypeId × Value → H} {w : World} {base : Nat} {spare : Nat → Bool} {held : Bool} {fuel : Nat}

theorem wf_i64 {z : Int} (h : (Lit.int .i64 z).wf = true) : -9223372036854775808 ≤ z ∧ z ≤ 9223372036854775807 := by
  have h1 := (Lit.wf_int_iff _ _).1 h
  have e1 : IntKind.i64.min = -9223372036854775808 := by decide
  have e2 : IntKind.i64.max = 9223372036854775807 := by decide
  omega
theorem field_int {n t : Nat} {k : IntKind} {c : Value} {l : List Value} {o : Option (DataW H × List MemPlace)} (hu : Try.prog.underlying t = some (.int k)) (hc : Try.prog.cellsOf t = 1) (ho : o.isSome = true)
    (h : DataW.trod enc Try.prog w base spare held n t ((c :: l).take (Try.prog.cellsOf t)) = o) : ∃ z, c = .int k z ∧ (Lit.int k z).wf = true := by
  obtain ⟨y, hy⟩ := Option.isSome_iff_exists.1 ho
  rw [hc, hy] at h
  obtain ⟨z, hz, _, hw⟩ := DataW.trod_int hu h
  simp at hz
  exact ⟨z, hz, hw⟩

set_option maxHeartbeats 800000 in
/-- What reads as a line is a line's five cells. -/
theorem trod43 {cs : List Value} {x : DataW H × List MemPlace} (h : DataW.trod enc Try.prog w base spare held fuel 43 cs = some x) : ∃ m : List Int, m.length = 5 ∧ Rg m ∧ cs = lc m := by
  obtain ⟨xs, n, _, _, hl, hxl, hf⟩ := DataW.trod_struct Try.underlying43 h
  rw [Try.cells43] at hl
  have hxl : xs.length = 5 := hxl
  have hs : ∀ i, i < 5 → (xs[i]?).isSome = true := fun i hi => by simp; omega
  obtain ⟨c0, c1, c2, c3, c4, rfl⟩ := list5v cs hl
  obtain ⟨z0, rfl, w0⟩ := field_int Try.underlying21 Try.cells21 (hs 0 (by omega)) (hf 0 _ rfl)
  obtain ⟨z1, rfl, w1⟩ := field_int Try.underlying2 Try.cells2 (hs 1 (by omega)) (hf 1 _ rfl)
  obtain ⟨z2, rfl, w2⟩ := field_int Try.underlying2 Try.cells2 (hs 2 (by omega)) (hf 2 _ rfl)
  obtain ⟨z3, rfl, w3⟩ := field_int Try.underlying2 Try.cells2 (hs 3 (by omega)) (hf 3 _ rfl)
  obtain ⟨z4, rfl, w4⟩ := field_int Try.underlying2 Try.cells2 (hs 4 (by omega)) (hf 4 _ rfl)
  exact ⟨[z0, z1, z2, z3, z4], rfl, ⟨(wf_i64 w1).2, (wf_i64 w2).2, (wf_i64 w4).2⟩, rfl⟩

/-- A slice of lines that came in. -/
theorem open_lines {a : Option Addr} {len cap : Nat} {x : DataW H × List MemPlace} (h : DataW.trod enc Try.prog w base spare held fuel 22 [.slice a len cap] = some x) :
    ∃ ms : List (List Int), ms.length = len ∧ (∀ m ∈ ms, m.length = 5) ∧ (∀ m ∈ ms, Rg m) ∧ RowL w a ms ∧ len ≤ maxLen ∧ len ≤ cap ∧ cap ≤ maxLen := by
  rcases open_slice Try.underlying22 h with ⟨hcs, _⟩ | ⟨ad, l, c, m, n, D, Pl, hcs, _, hl, hm, hmm, _, hx⟩
  · simp at hcs
    obtain ⟨rfl, rfl, rfl⟩ := hcs
    exact ⟨[], rfl, by simp, by simp, Or.inl rfl, by simp, by simp, by simp⟩
  · simp at hcs
    obtain ⟨rfl, rfl, rfl⟩ := hcs
    have hlm : len ≤ m := by rw [hmm]; split <;> omega
    rw [Try.cells43] at hx
    obtain ⟨f, hf⟩ := choose_lt (α := List Int) (n := len) (p := fun i z => (z.length = 5 ∧ Rg z) ∧ ∀ j v, (lc z)[j]? = some v → w.cell? ((ad.add (i * 5)).add j) = some v) (fun i hi => by
      obtain ⟨cs', h1, h2⟩ := hx i (by omega)
      obtain ⟨z, hz, hzr, rfl⟩ := trod43 h2
      refine ⟨z, ⟨hz, hzr⟩, fun j v hv => ?_⟩
      obtain ⟨_, h3, h4⟩ := World.cells?_some h1
      have hj : j < 5 := by have := (List.getElem?_eq_some_iff.1 hv).1; rw [lc_length z hz] at this; omega
      rw [h4 j hj, hv])
    refine ⟨(List.range len).map f, by simp, ?_, ?_, ?_, by omega, hl, hm⟩
    · intro z hz
      simp only [List.mem_map, List.mem_range] at hz
      obtain ⟨i, hi, rfl⟩ := hz
      exact (hf i hi).1.1
    · intro z hz
      simp only [List.mem_map, List.mem_range] at hz
      obtain ⟨i, hi, rfl⟩ := hz
      exact (hf i hi).1.2
    · by_cases h0 : len = 0
      · left; subst h0; rfl
      · right
        have hc := (hf 0 (by omega)).2 0 (.int .i32 ((f 0).getD 0 0)) (by
          have := (hf 0 (by omega)).1.1
          obtain ⟨a0, a1, a2, a3, a4, e⟩ := list5 _ this
          rw [e]; rfl)
        have hsp : ad.spot = none := by
          have e : (ad.add (0 * 5)).add 0 = ad := by simp [Addr.add]
          rw [e] at hc
          cases hs : ad.spot with
          | none => rfl
          | some s =>
            simp only [World.cell?, hs] at hc
            split at hc <;> simp at hc
        obtain ⟨b, off, sp⟩ := ad
        simp only at hsp
        subst hsp
        refine ⟨b, off, rfl, fun i hi j v hv => ?_⟩
        simp only [List.length_map, List.length_range] at hi
        have e : gl ((List.range len).map f) i = f i := by simp [gl, List.getD_eq_getElem?_getD, hi]
        rw [e] at hv
        have := (hf i hi).2 j v hv
        rw [Addr.add_mid, Addr.add_mid] at this
        exact this
end
end Go.Proofs.Qxb6617981a
