import Derived.Test.Qxb6617920aBase
import Derived.Test.Qxb6617920aPlain
import Derived.WalkKit
import Derived.WalkSpells
import Derived.KernelRfl
import Derived.Deep.RegionHeld3
import Derived.Deep.MidRow
import Derived.Deep.QuietTactic
import Derived.BigQuiet
namespace Go.Proofs.Qxb6617920a
open Go.RowKit
set_option linter.unusedSimpArgs false
set_option linter.unusedVariables false

theorem below2 (w : World) (o o' : Obj) : Below w.heap.size w ((w.alloc o).alloc o') :=
  ((Below.refl _ _).alloc (Nat.le_refl _) _).alloc (by simp) _

set_option maxHeartbeats 800000 in
theorem arrives_any (x y : List Int) (hx : x.length = 15) (hy : y.length = 15) (w : World) :
    Calls Try.prog 23 #[.agg (mc x).toArray, .agg (mc y).toArray] w fun e w' => e = .returned (.bool (bef x y)) ∧ Below w.heap.size w w' := by
  obtain ⟨a0, a1, a2, a3, a4, a5, a6, a7, a8, a9, a10, a11, a12, a13, a14, rfl⟩ := list15 x hx
  obtain ⟨b0, b1, b2, b3, b4, b5, b6, b7, b8, b9, b10, b11, b12, b13, b14, rfl⟩ := list15 y hy
  simp only [mc, KS, List.zipWith, bef, at', sq, List.getD_cons_zero, List.getD_cons_succ]
  clear hx hy
  rcases Int.lt_trichotomy a0 b0 with h | h | h
  · go_enter Try.func23, Try.ntmps23
    go_wp2
    go_ret
    exact ⟨by simp [h], below2 _ _ _⟩
  · subst h
    by_cases h2 : a2 < b2
    · go_enter Try.func23, Try.ntmps23
      go_wp2
      go_ret
      exact ⟨by simp [h2], below2 _ _ _⟩
    · go_enter Try.func23, Try.ntmps23
      go_wp2
      go_ret
      exact ⟨by simp [h2], below2 _ _ _⟩
  · have h1 : ¬ a0 < b0 := by omega
    have h2 : (a0 == b0) = false := beq_eq_false_iff_ne.2 (by omega)
    go_enter Try.func23, Try.ntmps23
    go_wp2
    go_ret
    exact ⟨by simp [h1]; omega, below2 _ _ _⟩
end Go.Proofs.Qxb6617920a
