import Derived.Test.Qxb6617920aBase
namespace Go.Proofs.Qxb6617920a
open Go.RowKit
set_option linter.unusedSimpArgs false
set_option linter.unusedVariables false

theorem eqFields_cons (d : Nat) (xs ys : Array Value) (f : Field) (fs : List Field) (k k' : IntKind) (a b : Int) (w : World) (hn : f.name ≠ "_") (hu : Try.prog.underlying f.type = some (.int k'))
    (hx : xs[f.offset]? = some (.int k a)) (hy : ys[f.offset]? = some (.int k b)) :
    (Op.eqFields (d + 1) xs ys (f :: fs)).run Try.prog w = if (a == b) = true then (Op.eqFields (d + 1) xs ys fs).run Try.prog w else .ok false w := by
  have hp : ∀ (zs : Array Value) (z : Int), zs[f.offset]? = some (.int k z) → (part f.type zs f.offset).run Try.prog w = .ok (.int k z) w := fun zs z hz => by
    simp [part, isAgg, Sem.run_bind, run_underlying hu, hz]
  simp only [Op.eqFields, if_pos hn, Sem.run_bind, hp xs a hx, hp ys b hy, Result.andThen_ok, run_equalIn_int w d f.type k k' a b hu]
  cases h : (a == b) <;> simp

set_option maxHeartbeats 1600000 in
theorem run_eq34 (x y : List Int) (hx : x.length = 15) (hy : y.length = 15) (w : World) :
    (binOp .eql 34 (.agg (mc x).toArray) (.agg (mc y).toArray)).run Try.prog w = .ok (.bool (decide (x = y))) w := by
  have hS : Try.prog.underlying 34 = some (.struct (Try.prog.fieldsOf 34)) := by kernel_rfl
  have hp : Try.prog.stoodInHeld 34 = false := by kernel_rfl
  obtain ⟨a0, a1, a2, a3, a4, a5, a6, a7, a8, a9, a10, a11, a12, a13, a14, rfl⟩ := list15 x hx
  obtain ⟨b0, b1, b2, b3, b4, b5, b6, b7, b8, b9, b10, b11, b12, b13, b14, rfl⟩ := list15 y hy
  rw [run_eql_struct, show (10000 : Nat) = 9999 + 1 from rfl, run_equalIn_agg w 9999 34 _ _ hS hp]
  simp only [Program.fieldsOf, Try.underlying34, mc, KS, List.zipWith]
  have e : (10000 : Nat) = 9999 + 1 := rfl
  rw [show (9999 : Nat) = 9998 + 1 from rfl]
  rw [eqFields_cons 9998 _ _ _ _ .i64 .i64 a0 b0 w (by decide) Try.underlying2 rfl rfl]
  rw [eqFields_cons 9998 _ _ _ _ .i64 .i64 a1 b1 w (by decide) Try.underlying2 rfl rfl]
  rw [eqFields_cons 9998 _ _ _ _ .u64 .u64 a2 b2 w (by decide) Try.underlying22 rfl rfl]
  rw [eqFields_cons 9998 _ _ _ _ .i64 .i64 a3 b3 w (by decide) Try.underlying3 rfl rfl]
  rw [eqFields_cons 9998 _ _ _ _ .i64 .i64 a4 b4 w (by decide) Try.underlying3 rfl rfl]
  rw [eqFields_cons 9998 _ _ _ _ .u8 .u8 a5 b5 w (by decide) Try.underlying5 rfl rfl]
  rw [eqFields_cons 9998 _ _ _ _ .u8 .u8 a6 b6 w (by decide) Try.underlying5 rfl rfl]
  rw [eqFields_cons 9998 _ _ _ _ .i64 .i64 a7 b7 w (by decide) Try.underlying3 rfl rfl]
  rw [eqFields_cons 9998 _ _ _ _ .i64 .i64 a8 b8 w (by decide) Try.underlying3 rfl rfl]
  rw [eqFields_cons 9998 _ _ _ _ .i64 .i64 a9 b9 w (by decide) Try.underlying2 rfl rfl]
  rw [eqFields_cons 9998 _ _ _ _ .i64 .i64 a10 b10 w (by decide) Try.underlying3 rfl rfl]
  rw [eqFields_cons 9998 _ _ _ _ .i64 .i64 a11 b11 w (by decide) Try.underlying2 rfl rfl]
  rw [eqFields_cons 9998 _ _ _ _ .i64 .i64 a12 b12 w (by decide) Try.underlying2 rfl rfl]
  rw [eqFields_cons 9998 _ _ _ _ .i64 .i64 a13 b13 w (by decide) Try.underlying2 rfl rfl]
  rw [eqFields_cons 9998 _ _ _ _ .i64 .i64 a14 b14 w (by decide) Try.underlying2 rfl rfl]
  simp only [Op.eqFields, Sem.run_pure]
  by_cases h0 : a0 = b0
  case neg => simp [h0]
  subst h0
  simp only [beq_self_eq_true, if_true]
  by_cases h1 : a1 = b1
  case neg => simp [h1]
  subst h1
  simp only [beq_self_eq_true, if_true]
  by_cases h2 : a2 = b2
  case neg => simp [h2]
  subst h2
  simp only [beq_self_eq_true, if_true]
  by_cases h3 : a3 = b3
  case neg => simp [h3]
  subst h3
  simp only [beq_self_eq_true, if_true]
  by_cases h4 : a4 = b4
  case neg => simp [h4]
  subst h4
  simp only [beq_self_eq_true, if_true]
  by_cases h5 : a5 = b5
  case neg => simp [h5]
  subst h5
  simp only [beq_self_eq_true, if_true]
  by_cases h6 : a6 = b6
  case neg => simp [h6]
  subst h6
  simp only [beq_self_eq_true, if_true]
  by_cases h7 : a7 = b7
  case neg => simp [h7]
  subst h7
  simp only [beq_self_eq_true, if_true]
  by_cases h8 : a8 = b8
  case neg => simp [h8]
  subst h8
  simp only [beq_self_eq_true, if_true]
  by_cases h9 : a9 = b9
  case neg => simp [h9]
  subst h9
  simp only [beq_self_eq_true, if_true]
  by_cases h10 : a10 = b10
  case neg => simp [h10]
  subst h10
  simp only [beq_self_eq_true, if_true]
  by_cases h11 : a11 = b11
  case neg => simp [h11]
  subst h11
  simp only [beq_self_eq_true, if_true]
  by_cases h12 : a12 = b12
  case neg => simp [h12]
  subst h12
  simp only [beq_self_eq_true, if_true]
  by_cases h13 : a13 = b13
  case neg => simp [h13]
  subst h13
  simp only [beq_self_eq_true, if_true]
  by_cases h14 : a14 = b14
  case neg => simp [h14]
  subst h14
  simp only [beq_self_eq_true, if_true]
  simp

/-- '==' on two messages, kept whole from the walk's simp. -/
def eqS (x y : Operand) (u v : Value) : Sem Next := do pure (.value (← (do eqGuard .eql 34 x y u v; binOp .eql 34 u v)))
theorem exec_eq34 (f : Operand → Value) (dst : Option Tmp) (x y : Operand) (t2 ty : TypeId) (pos : String) (after : Array Edge) (g : Option (Nat × Bool)) :
    execOp f ⟨dst, .binOp .eql 34 x y t2, ty, pos, after, g⟩ = eqS x y (f x) (f y) := rfl
theorem run_eqS (x y : List Int) (hx : x.length = 15) (hy : y.length = 15) (o1 o2 : Operand) (w : World) :
    Sem.run Try.prog (eqS o1 o2 (.agg (mc x).toArray) (.agg (mc y).toArray)) w = .ok (.value (.bool (decide (x = y)))) w := by
  have hm : Try.prog.eqGuardType Try.prog.depth 34 = false := by kernel_rfl
  simp only [eqS, Sem.run_bind, run_eqGuard_agg w .eql 34 o1 o2 _ _ hm, Result.andThen_ok, run_eq34 x y hx hy, Sem.run_pure]

end Go.Proofs.Qxb6617920a
