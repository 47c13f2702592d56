/- Seat b6617981a: the leaves: satAdd, satMul, lineFree, gap. -/
import Derived.Test.Qxb6617981aBase
namespace Go.Proofs.Qxb6617981a
open Go.RowKit
set_option linter.unusedSimpArgs false
set_option linter.unusedVariables false

set_option maxHeartbeats 400000 in
theorem satAdd_any (a b : Int) (w : World) (ha : 0 ≤ a) (hb : 0 ≤ b) (ha2 : a ≤ 18446744073709551615) (hb2 : b ≤ 18446744073709551615) :
    Calls Try.prog 19 #[.int .u64 a, .int .u64 b] w fun e w' => e = .returned (.int .u64 (cap64 (a + b))) ∧ w' = w := by
  by_cases h : 18446744073709551615 < a + b
  · have e : cap64 (a + b) = 18446744073709551615 := by unfold cap64; rw [if_neg (by omega)]
    rw [e]
    clear e
    go_enter Try.func19, Try.ntmps19
    go_wp2
    go_ret
    exact ⟨rfl, rfl⟩
  · have e : cap64 (a + b) = a + b := cap64_id (by omega)
    rw [e]
    clear e
    go_enter Try.func19, Try.ntmps19
    go_wp2
    go_ret
    exact ⟨rfl, rfl⟩

theorem mul_cap (a b : Int) (ha : 0 < a) (hb : 0 < b) : (18446744073709551615 / b < a → cap64 (a * b) = 18446744073709551615) ∧ (¬ 18446744073709551615 / b < a → a * b ≤ 18446744073709551615) := by
  constructor
  · intro h
    have h1 : 18446744073709551615 < a * b := (Int.ediv_lt_iff_lt_mul hb).1 h
    unfold cap64; rw [if_neg (by omega)]
  · intro h
    exact (Int.le_ediv_iff_mul_le hb).1 (by omega)

set_option maxHeartbeats 400000 in
theorem satMul_any (a b : Int) (w : World) (ha : 0 ≤ a) (hb : 0 ≤ b) (ha2 : a ≤ 18446744073709551615) (hb2 : b ≤ 18446744073709551615) :
    Calls Try.prog 20 #[.int .u64 a, .int .u64 b] w fun e w' => e = .returned (.int .u64 (cap64 (a * b))) ∧ w' = w := by
  by_cases h0 : a = 0
  · subst h0
    rw [Int.zero_mul, cap64_id (by omega)]
    go_enter Try.func20, Try.ntmps20
    go_wp2
    go_ret
    exact ⟨rfl, rfl⟩
  · by_cases h1 : b = 0
    · subst h1
      have h0' : (a == 0) = false := beq_eq_false_iff_ne.2 h0
      rw [Int.mul_zero, cap64_id (by omega)]
      go_enter Try.func20, Try.ntmps20
      go_wp2
      go_ret
      exact ⟨rfl, rfl⟩
    · have h0' : (a == 0) = false := beq_eq_false_iff_ne.2 h0
      have h1' : (b == 0) = false := beq_eq_false_iff_ne.2 h1
      obtain ⟨m1, m2⟩ := mul_cap a b (by omega) (by omega)
      by_cases hq : 18446744073709551615 / b < a
      · rw [m1 hq]
        clear m1 m2
        go_enter Try.func20, Try.ntmps20
        go_wp2
        go_ret
        exact ⟨rfl, rfl⟩
      · have hm := m2 hq
        have hm0 : 0 ≤ a * b := Int.mul_nonneg ha hb
        rw [cap64_id hm]
        clear m1 m2
        go_enter Try.func20, Try.ntmps20
        go_wp2
        go_ret
        exact ⟨rfl, rfl⟩

set_option maxHeartbeats 400000 in
theorem lineFree_any (l : List Int) (hl : l.length = 5) (u : Bool) (w : World) (h : Ok l) :
    Calls Try.prog 21 #[.agg (lc l).toArray, .bool u] w fun e w' => e = .returned (.int .u64 (fr u l)) ∧ Below w.heap.size w w' := by
  obtain ⟨a0, a1, a2, a3, a4, rfl⟩ := list5 l hl
  obtain ⟨h1, h2, h3, h4⟩ := h
  simp only [us, un, ct, List.getD_cons_zero, List.getD_cons_succ] at h1 h2 h3 h4
  simp only [lc, KL, List.zipWith, fr, us, un, List.getD_cons_zero, List.getD_cons_succ]
  rcases u with _ | _
  · go_enter Try.func21, Try.ntmps21
    go_wp2
    go_ret
    exact ⟨rfl, (Below.refl _ _).alloc (Nat.le_refl _) _⟩
  · go_enter Try.func21, Try.ntmps21
    go_wp2
    go_ret
    exact ⟨rfl, (Below.refl _ _).alloc (Nat.le_refl _) _⟩

set_option maxHeartbeats 400000 in
theorem gap_any (a b : Int) (w : World) (h1 : -9223372036854775807 ≤ a) (h2 : a < b) (h3 : b ≤ 9223372036854775807) :
    Calls Try.prog 11 #[.int .i64 a, .int .i64 b] w fun e w' => e = .returned (.int .u64 (b - a)) ∧ w' = w := by
  by_cases k1 : 0 ≤ a
  · go_enter Try.func11, Try.ntmps11
    go_wp2
    go_ret
    exact ⟨rfl, rfl⟩
  · by_cases k2 : b < 0
    · go_enter Try.func11, Try.ntmps11
      go_wp2
      go_ret
      exact ⟨rfl, rfl⟩
    · go_enter Try.func11, Try.ntmps11
      go_wp2
      go_ret
      exact ⟨rfl, rfl⟩
end Go.Proofs.Qxb6617981a
