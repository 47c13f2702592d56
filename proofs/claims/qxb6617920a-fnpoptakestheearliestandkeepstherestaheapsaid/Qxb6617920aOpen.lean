/- Seat b6617920a: the arguments opened: a slice of messages, a message by value. -/
import Derived.Test.Qxb6617920aBase
import Derived.Test.Qxb6617920aWalkE
import Derived.ProofKit
import Derived.Deep.Slices
namespace Go.Proofs.Qxb6617920a
open Go.RowKit Go.Deep Go.ChangeShapes Go.WideShapes
set_option linter.unusedSimpArgs false
set_option linter.unusedVariables false

theorem list15v (m : List Value) (h : m.length = 15) : ∃ c0 c1 c2 c3 c4 c5 c6 c7 c8 c9 c10 c11 c12 c13 c14, m = [c0, c1, c2, c3, c4, c5, c6, c7, c8, c9, c10, c11, c12, c13, c14] := by
  match m, h with
  | [c0, c1, c2, c3, c4, c5, c6, c7, c8, c9, c10, c11, c12, c13, c14], _ => exact ⟨c0, c1, c2, c3, c4, c5, c6, c7, c8, c9, c10, c11, c12, c13, c14, rfl⟩

theorem Try.cells34 : Try.prog.cellsOf 34 = 15 := by kernel_rfl
theorem Try.cells2 : Try.prog.cellsOf 2 = 1 := by kernel_rfl
theorem Try.cells22 : Try.prog.cellsOf 22 = 1 := by kernel_rfl
theorem Try.cells3 : Try.prog.cellsOf 3 = 1 := by kernel_rfl
theorem Try.cells5 : Try.prog.cellsOf 5 = 1 := by kernel_rfl

section
variable {H : Type} {enc : TypeId × Value → H} {w : World} {base : Nat} {spare : Nat → Bool} {held : Bool} {fuel : Nat}

theorem field_int {n t : Nat} {k : IntKind} {c : Value} {l : List Value} {o : Option (DataW H × List MemPlace)} (hu : Try.prog.underlying t = some (.int k)) (hc : Try.prog.cellsOf t = 1) (ho : o.isSome = true)
    (h : DataW.trod enc Try.prog w base spare held n t ((c :: l).take (Try.prog.cellsOf t)) = o) : ∃ z, c = .int k z := by
  obtain ⟨y, hy⟩ := Option.isSome_iff_exists.1 ho
  rw [hc, hy] at h
  obtain ⟨z, hz, _⟩ := DataW.trod_int hu h
  simp at hz
  exact ⟨z, hz⟩

set_option maxHeartbeats 800000 in
/-- What reads as a message is a message's fifteen cells. -/
theorem trod34 {cs : List Value} {x : DataW H × List MemPlace} (h : DataW.trod enc Try.prog w base spare held fuel 34 cs = some x) : ∃ m : List Int, m.length = 15 ∧ cs = mc m := by
  obtain ⟨xs, n, _, _, hl, hxl, hf⟩ := DataW.trod_struct Try.underlying34 h
  rw [Try.cells34] at hl
  have hxl : xs.length = 15 := hxl
  have hs : ∀ i, i < 15 → (xs[i]?).isSome = true := fun i hi => by simp; omega
  obtain ⟨c0, c1, c2, c3, c4, c5, c6, c7, c8, c9, c10, c11, c12, c13, c14, rfl⟩ := list15v cs hl
  obtain ⟨z0, rfl⟩ := field_int Try.underlying2 Try.cells2 (hs 0 (by omega)) (hf 0 _ rfl)
  obtain ⟨z1, rfl⟩ := field_int Try.underlying2 Try.cells2 (hs 1 (by omega)) (hf 1 _ rfl)
  obtain ⟨z2, rfl⟩ := field_int Try.underlying22 Try.cells22 (hs 2 (by omega)) (hf 2 _ rfl)
  obtain ⟨z3, rfl⟩ := field_int Try.underlying3 Try.cells3 (hs 3 (by omega)) (hf 3 _ rfl)
  obtain ⟨z4, rfl⟩ := field_int Try.underlying3 Try.cells3 (hs 4 (by omega)) (hf 4 _ rfl)
  obtain ⟨z5, rfl⟩ := field_int Try.underlying5 Try.cells5 (hs 5 (by omega)) (hf 5 _ rfl)
  obtain ⟨z6, rfl⟩ := field_int Try.underlying5 Try.cells5 (hs 6 (by omega)) (hf 6 _ rfl)
  obtain ⟨z7, rfl⟩ := field_int Try.underlying3 Try.cells3 (hs 7 (by omega)) (hf 7 _ rfl)
  obtain ⟨z8, rfl⟩ := field_int Try.underlying3 Try.cells3 (hs 8 (by omega)) (hf 8 _ rfl)
  obtain ⟨z9, rfl⟩ := field_int Try.underlying2 Try.cells2 (hs 9 (by omega)) (hf 9 _ rfl)
  obtain ⟨z10, rfl⟩ := field_int Try.underlying3 Try.cells3 (hs 10 (by omega)) (hf 10 _ rfl)
  obtain ⟨z11, rfl⟩ := field_int Try.underlying2 Try.cells2 (hs 11 (by omega)) (hf 11 _ rfl)
  obtain ⟨z12, rfl⟩ := field_int Try.underlying2 Try.cells2 (hs 12 (by omega)) (hf 12 _ rfl)
  obtain ⟨z13, rfl⟩ := field_int Try.underlying2 Try.cells2 (hs 13 (by omega)) (hf 13 _ rfl)
  obtain ⟨z14, rfl⟩ := field_int Try.underlying2 Try.cells2 (hs 14 (by omega)) (hf 14 _ rfl)
  exact ⟨[z0, z1, z2, z3, z4, z5, z6, z7, z8, z9, z10, z11, z12, z13, z14], rfl, rfl⟩

/-- A slice of messages that came in. -/
theorem open_msgs {a : Option Addr} {len cap : Nat} {x : DataW H × List MemPlace} (h : DataW.trod enc Try.prog w base spare held fuel 24 [.slice a len cap] = some x) :
    ∃ ms : List (List Int), ms.length = len ∧ (∀ m ∈ ms, m.length = 15) ∧ RowAt w a ms ∧ len ≤ maxLen := by
  rcases open_slice Try.underlying24 h with ⟨hcs, _⟩ | ⟨ad, l, c, m, n, D, Pl, hcs, _, hl, hm, hmm, _, hx⟩
  · simp at hcs
    obtain ⟨rfl, rfl, rfl⟩ := hcs
    exact ⟨[], rfl, by simp, Or.inl rfl, by simp⟩
  · simp at hcs
    obtain ⟨rfl, rfl, rfl⟩ := hcs
    have hlm : len ≤ m := by rw [hmm]; split <;> omega
    rw [Try.cells34] at hx
    obtain ⟨f, hf⟩ := choose_lt (α := List Int) (n := len) (p := fun i z => z.length = 15 ∧ ∀ j v, (mc z)[j]? = some v → w.cell? ((ad.add (i * 15)).add j) = some v) (fun i hi => by
      obtain ⟨cs', h1, h2⟩ := hx i (by omega)
      obtain ⟨z, hz, rfl⟩ := trod34 h2
      refine ⟨z, hz, fun j v hv => ?_⟩
      obtain ⟨_, h3, h4⟩ := World.cells?_some h1
      have hj : j < 15 := by have := (List.getElem?_eq_some_iff.1 hv).1; rw [mc_length z hz] at this; omega
      rw [h4 j hj, hv])
    refine ⟨(List.range len).map f, by simp, ?_, ?_, by omega⟩
    · intro z hz
      simp only [List.mem_map, List.mem_range] at hz
      obtain ⟨i, hi, rfl⟩ := hz
      exact (hf i hi).1
    · by_cases h0 : len = 0
      · left; subst h0; rfl
      · right
        have hc := (hf 0 (by omega)).2 0 (.int .i64 ((f 0).getD 0 0)) (by
          have := (hf 0 (by omega)).1
          obtain ⟨a0, a1, a2, a3, a4, a5, a6, a7, a8, a9, a10, a11, a12, a13, a14, e⟩ := list15 _ this
          rw [e]; rfl)
        have hsp : ad.spot = none := by
          have e : (ad.add (0 * 15)).add 0 = ad := by simp [Addr.add]
          rw [e] at hc
          cases hs : ad.spot with
          | none => rfl
          | some s =>
            simp only [World.cell?, hs] at hc
            split at hc <;> simp at hc
        obtain ⟨b, off, sp⟩ := ad
        simp only at hsp
        subst hsp
        refine ⟨b, off, rfl, fun i hi j v hv => ?_⟩
        simp only [List.length_map, List.length_range] at hi
        have e : ((List.range len).map f).getD i [] = f i := by simp [List.getD_eq_getElem?_getD, hi]
        rw [e] at hv
        have := (hf i hi).2 j v hv
        rw [Addr.add_mid, Addr.add_mid] at this
        exact this
end

/-- A slice of numbers that came in. -/
theorem open_loads {H : Type} {enc : TypeId × Value → H} {w : World} {base : Nat} {held : Bool} {a : Option Addr} {len cap : Nat} {d : DataW H} {p : List MemPlace} (h : DataW.Trod enc Try.prog w base (fun _ => true) held 23 (.slice a len cap) d p) :
    ∃ zs : List Int, zs.length = len ∧ zs.length ≤ 9223372036854775807 ∧ IntAt w a zs := by
  obtain ⟨fuel, hf⟩ := h
  rcases open_ints Try.underlying23 Try.underlying2 Try.cells2 hf with ⟨hcs, _⟩ | ⟨x, l, c, zs, hcs, _, hl, hm, hz, _, hcell, hwz⟩
  · simp [Value.cells] at hcs
    obtain ⟨rfl, rfl, rfl⟩ := hcs
    exact ⟨[], rfl, by simp, Or.inl rfl⟩
  · simp [Value.cells] at hcs
    obtain ⟨rfl, rfl, rfl⟩ := hcs
    have hz' : zs.length = cap := by simpa using hz
    unfold maxLen at hm
    refine ⟨zs.take len, by simp; omega, by simp; omega, ?_⟩
    by_cases h0 : len = 0
    · left; subst h0; simp
    · right
      have hc := hcell 0 (by omega)
      have hsp : x.spot = none := by
        have e : x.add 0 = x := by simp [Addr.add]
        rw [e] at hc
        cases hs : x.spot with
        | none => rfl
        | some s =>
          simp only [World.cell?, hs] at hc
          split at hc <;> simp at hc
      obtain ⟨b, off, sp⟩ := x
      simp only at hsp
      subst hsp
      refine ⟨b, off, rfl, fun j v hv => ?_⟩
      have hj : j < len := by have := (List.getElem?_eq_some_iff.1 hv).1; simp [iv] at this; omega
      have := hcell j (by omega)
      rw [Addr.add_mid] at this
      rw [this, ← hv]
      simp [iv, hj, show j < zs.length by omega]
end Go.Proofs.Qxb6617920a
