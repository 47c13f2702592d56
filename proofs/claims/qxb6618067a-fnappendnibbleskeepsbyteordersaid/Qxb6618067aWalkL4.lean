/- Seat b6618067a: the law on the order of keys: the walk. -/
import Derived.Test.Qxb6618067aWalkB
namespace Go.Proofs.Qxb6618067a
open Go.RowKit
set_option linter.unusedSimpArgs false
set_option linter.unusedVariables false

theorem In.at {B : Nat} {w : World} {a : Option Addr} {n cap : Nat} {zs : List Int} (h : In B w (.slice a n cap) zs) : n = zs.length ∧ At B w a zs := by
  obtain ⟨a', c', e, h'⟩ := h.form
  simp at e
  obtain ⟨rfl, rfl, rfl⟩ := e
  exact ⟨rfl, h'⟩
theorem len_nibs (ds xs : List Int) : (ds ++ nibs xs).length = ds.length + 2 * xs.length := by simp [nibs_length]
/-- What was read at a world is read at a later one. -/
theorem In.up {w w' : World} {v : Value} {zs : List Int} (h : In w.heap.size w v zs) (b : Below w.heap.size w w') : In w'.heap.size w' v zs := (h.below b).mono b.size

set_option maxRecDepth 100000 in
set_option maxHeartbeats 3200000 in
theorem law4_any (v0 v1 v2 : Value) (ds xs ys : List Int) (w : World) (h0 : In w.heap.size w v0 ds) (h1 : In w.heap.size w v1 xs) (h2 : In w.heap.size w v2 ys) (b1 : Bs xs) (b2 : Bs ys) (l0 : ds.length ≤ 9223372036854775807) (l1 : xs.length ≤ 9223372036854775807) (l2 : ys.length ≤ 9223372036854775807) :
    Calls Try.prog 4 #[v0, v1, v2] w fun e w' => e = .returned (.bool true) ∧ Below w.heap.size w w' := by
  obtain ⟨a0, c0, rfl, -⟩ := h0.form
  obtain ⟨a1, c1, rfl, -⟩ := h1.form
  obtain ⟨a2, c2, rfl, -⟩ := h2.form
  replace h0 : Hid (In _ _ _ _) := h0
  replace h1 : Hid (In _ _ _ _) := h1
  replace h2 : Hid (In _ _ _ _) := h2
  go_enter Try.func4, Try.ntmps4
  go_wp2_with fail
  refine (zzBytes9_any a0 a1 a2 ds.length c0 xs.length c1 ys.length c2 _ l0 l1 l2).mono ?_
  rintro e w ⟨t, rfl, rfl⟩
  rcases t with _ | _
  · go_wp2
    go_ret
    exact ⟨rfl, Below.refl _ _⟩
  by_cases k1 : 65536 < ds.length
  · go_wp2
    go_ret
    exact ⟨rfl, Below.refl _ _⟩
  by_cases k2 : 65536 < xs.length
  · go_wp2
    go_ret
    exact ⟨rfl, Below.refl _ _⟩
  by_cases k3 : 65536 < ys.length
  · go_wp2
    go_ret
    exact ⟨rfl, Below.refl _ _⟩
  go_wp2_with fail
  refine (clone_any _ _ ds w h0 (Nat.le_refl _) (by omega)).mono ?_
  rintro e w1 ⟨D, rfl, oD, f1⟩
  have iD := In.owned oD
  obtain ⟨aD, cD, rfl, -⟩ := iD.form
  replace iD : Hid (In w1.heap.size w1 (.slice aD ds.length cD) ds) := iD
  have g1 : Hid (In w1.heap.size w1 (.slice a1 xs.length c1) xs) := h1.out.up f1
  have g2 : Hid (In w1.heap.size w1 (.slice a2 ys.length c2) ys) := h2.out.up f1
  have bw1 : Below w.heap.size w w1 := f1
  clear oD f1 h0 h1 h2
  go_wp2_with fail
  refine (clone_any _ _ xs w1 g1 (Nat.le_refl _) (by omega)).mono ?_
  rintro e w2 ⟨A, rfl, oA, f2⟩
  have iA := In.owned oA
  obtain ⟨aA, cA, rfl, -⟩ := iA.form
  replace iA : Hid (In w2.heap.size w2 (.slice aA xs.length cA) xs) := iA
  replace iD : Hid (In w2.heap.size w2 (.slice aD ds.length cD) ds) := iD.out.up f2
  replace g2 : Hid (In w2.heap.size w2 (.slice a2 ys.length c2) ys) := g2.out.up f2
  have bw2 : Below w.heap.size w w2 := bw1.trans (f2.mono bw1.size)
  clear oA f2 g1 bw1
  go_wp2_with fail
  refine (clone_any _ _ ys w2 g2 (Nat.le_refl _) (by omega)).mono ?_
  rintro e w3 ⟨B, rfl, oB, f3⟩
  have iB := In.owned oB
  obtain ⟨aB, cB, rfl, -⟩ := iB.form
  replace iB : Hid (In w3.heap.size w3 (.slice aB ys.length cB) ys) := iB
  replace iA : Hid (In w3.heap.size w3 (.slice aA xs.length cA) xs) := iA.out.up f3
  replace iD : Hid (In w3.heap.size w3 (.slice aD ds.length cD) ds) := iD.out.up f3
  have bw3 : Below w.heap.size w w3 := bw2.trans (f3.mono bw2.size)
  clear oB f3 g2 bw2
  go_wp2_with fail
  refine (clone_any _ _ ds w3 iD (Nat.le_refl _) (by omega)).mono ?_
  rintro e w4 ⟨E, rfl, oE, f4⟩
  have HE : Hid (w4.ownsRow w3.heap.size 5 1 E ds.length (bv ds)) := oE
  have bw4 : Below w.heap.size w w4 := bw3.trans (f4.mono bw3.size)
  have xA : Hid (In w3.heap.size w4 (.slice aA xs.length cA) xs) := iA.out.below f4
  clear oE
  go_wp2_with fail
  refine (zzappend_any w3.heap.size _ ds _ xs w4 HE xA f4.size b1 (by omega) (by omega)).mono ?_
  rintro e w5 ⟨OA, rfl, oO, f5⟩
  replace f5 : Below w3.heap.size w3 w5 := f4.trans f5
  have iO := In.owned oO
  obtain ⟨aO, cO, rfl, -⟩ := iO.form
  replace iO : Hid (In w5.heap.size w5 (.slice aO (ds ++ nibs xs).length cO) (ds ++ nibs xs)) := iO
  replace iA : Hid (In w5.heap.size w5 (.slice aA xs.length cA) xs) := iA.out.up f5
  replace iB : Hid (In w5.heap.size w5 (.slice aB ys.length cB) ys) := iB.out.up f5
  replace iD : Hid (In w5.heap.size w5 (.slice aD ds.length cD) ds) := iD.out.up f5
  have bw5 : Below w.heap.size w w5 := bw3.trans (f5.mono bw3.size)
  clear oO f5 f4 bw3 bw4 HE xA
  rw [len_nibs ds xs]
  go_wp2_with fail
  refine (clone_any _ _ ds w5 iD (Nat.le_refl _) (by omega)).mono ?_
  rintro e w6 ⟨F, rfl, oF, f6⟩
  have HF : Hid (w6.ownsRow w5.heap.size 5 1 F ds.length (bv ds)) := oF
  have xB : Hid (In w5.heap.size w6 (.slice aB ys.length cB) ys) := iB.out.below f6
  clear oF
  go_wp2_with fail
  refine (zzappend_any w5.heap.size _ ds _ ys w6 HF xB f6.size b2 (by omega) (by omega)).mono ?_
  rintro e w7 ⟨OB, rfl, oP, f7⟩
  replace f7 : Below w5.heap.size w5 w7 := f6.trans f7
  have iP := In.owned oP
  obtain ⟨aP, cP, rfl, -⟩ := iP.form
  obtain ⟨-, tP⟩ := iP.at
  obtain ⟨-, tO⟩ := (iO.out.up f7).at
  obtain ⟨-, tA⟩ := (iA.out.up f7).at
  obtain ⟨-, tB⟩ := (iB.out.up f7).at
  have bw7 : Below w.heap.size w w7 := bw5.trans (f7.mono bw5.size)
  have C1 : Hid (Calls Try.prog 10 _ _ _) := compare_any aO aP cO cP (ds ++ nibs xs) (ds ++ nibs ys) w7 tO tP (by rw [len_nibs]; omega) (by rw [len_nibs]; omega)
  rw [cmp_pre, cmp_nibs xs ys b1 b2, len_nibs, len_nibs] at C1
  rw [len_nibs ds ys]
  obtain ⟨cc, hcc⟩ : ∃ cc, cc = cmp xs ys := ⟨_, rfl⟩
  rw [← hcc] at C1
  clear oP f6 f7 iO iA iB iD HF xB iP tO tP
  go_wp2_with fail
  refine C1.out.mono ?_
  rintro e w8 ⟨rfl, f8⟩
  have bw8 : Below w.heap.size w w8 := bw7.trans (f8.mono bw7.size)
  have C2 : Hid (Calls Try.prog 10 _ _ _) := compare_any aA aB cA cB xs ys w8 (fun h => by obtain ⟨b, o, e, h1, h2⟩ := tA h; exact ⟨b, o, e, Nat.lt_of_lt_of_le h1 f8.size, fun j v hv => by rw [f8.cell (p := ⟨b, o + j, none⟩) h1]; exact h2 j v hv⟩) (fun h => by obtain ⟨b, o, e, h1, h2⟩ := tB h; exact ⟨b, o, e, Nat.lt_of_lt_of_le h1 f8.size, fun j v hv => by rw [f8.cell (p := ⟨b, o + j, none⟩) h1]; exact h2 j v hv⟩) (by omega) (by omega)
  rw [← hcc] at C2
  clear f8 tA tB C1 hcc
  go_wp2_with fail
  refine C2.out.mono ?_
  rintro e w9 ⟨rfl, f9⟩
  clear C2
  go_wp2
  go_ret
  exact ⟨rfl, bw8.trans (f9.mono bw8.size)⟩
end Go.Proofs.Qxb6618067a
