import Derived.Test.Qxb6617920aBase
import Derived.Deep.QuietTactic
import Derived.BigQuiet
import Derived.WalkLawsBesides
namespace Go.Proofs.Qxb6617920a
open Go.RowKit
set_option linter.unusedSimpArgs false
set_option linter.unusedVariables false

theorem mc_at {w : World} {b o : Nat} {x : List Int} (h : w.rangeAt b o (mc x)) (hx : x.length = 15) : w.cell? ⟨b, o, none⟩ = some (.int .i64 (at' x)) ∧ w.cell? ⟨b, o + 2, none⟩ = some (.int .u64 (sq x)) := by
  obtain ⟨a0, a1, a2, a3, a4, a5, a6, a7, a8, a9, a10, a11, a12, a13, a14, rfl⟩ := list15 x hx
  exact ⟨h 0 _ rfl, h 2 _ rfl⟩

set_option maxHeartbeats 1600000 in
theorem before_any (b1 o1 b2 o2 : Nat) (x y : List Int) (hx : x.length = 15) (hy : y.length = 15) (w : World) (h1 : w.rangeAt b1 o1 (mc x)) (h2 : w.rangeAt b2 o2 (mc y)) :
    Calls Try.prog 29 #[.pointer (some ⟨b1, o1, none⟩), .pointer (some ⟨b2, o2, none⟩)] w fun e w' => e = .returned (.bool (bef x y)) ∧ ∃ n, w' = w.drewN n := by
  obtain ⟨c1, c2⟩ := mc_at h1 hx
  obtain ⟨d1, d2⟩ := mc_at h2 hy
  simp only [bef]
  obtain ⟨xa, hxa⟩ : ∃ z, z = at' x := ⟨_, rfl⟩
  obtain ⟨xs, hxs⟩ : ∃ z, z = sq x := ⟨_, rfl⟩
  obtain ⟨ya, hya⟩ : ∃ z, z = at' y := ⟨_, rfl⟩
  obtain ⟨ys, hys⟩ : ∃ z, z = sq y := ⟨_, rfl⟩
  rw [← hxa] at c1 ⊢
  rw [← hxs] at c2 ⊢
  rw [← hya] at d1 ⊢
  rw [← hys] at d2 ⊢
  clear hxa hxs hya hys h1 h2 hx hy
  rcases Int.lt_trichotomy xa ya with h | h | h
  · have hd : decide (xa < ya) = true := by simpa using h
    go_enter Try.func29, Try.ntmps29
    go_wp2_with fail
    go_quiet (fail)
    go_wp2
    go_ret
    exact ⟨by simp [h], _, rfl⟩
  · subst h
    have hd0 : decide (xa < xa) = false := by simp
    by_cases h2 : xs < ys
    · have hd : decide (xs < ys) = true := by simpa using h2
      go_enter Try.func29, Try.ntmps29
      go_wp2_with fail
      go_quiet (fail)
      go_wp2
      go_ret
      exact ⟨by simp [h2], _, rfl⟩
    · have hd : decide (xs < ys) = false := by simpa using h2
      go_enter Try.func29, Try.ntmps29
      go_wp2_with fail
      go_quiet (fail)
      go_wp2
      go_ret
      exact ⟨by simp [h2], _, rfl⟩
  · have hd : decide (xa < ya) = false := decide_eq_false (by omega)
    have h2 : (xa == ya) = false := beq_eq_false_iff_ne.2 (by omega)
    go_enter Try.func29, Try.ntmps29
    go_wp2_with fail
    go_quiet (fail)
    go_wp2
    go_ret
    exact ⟨by simp [hd]; omega, _, rfl⟩
end Go.Proofs.Qxb6617920a
