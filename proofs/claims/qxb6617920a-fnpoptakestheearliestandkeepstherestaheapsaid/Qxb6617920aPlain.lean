/- Seat b6617920a: the plain side: messages as lists of 15 integers. No Go in sight but the kinds of the cells. -/
import GoSem.Core.World
namespace Go.Proofs.Qxb6617920a

def KS : List IntKind := [.i64, .i64, .u64, .i64, .i64, .u8, .u8, .i64, .i64, .i64, .i64, .i64, .i64, .i64, .i64]
/-- A message's cells. -/
def mc (m : List Int) : List Value := List.zipWith Value.int KS m
def at' (m : List Int) : Int := m.getD 0 0
def sq (m : List Int) : Int := m.getD 2 0
/-- a arrives before b. -/
def bef (a b : List Int) : Bool := decide (at' a < at' b) || (decide (at' a = at' b) && decide (sq a < sq b))

theorem mc_length (m : List Int) (h : m.length = 15) : (mc m).length = 15 := by simp [mc, KS, h]

theorem list15 (m : List Int) (h : m.length = 15) : ∃ a0 a1 a2 a3 a4 a5 a6 a7 a8 a9 a10 a11 a12 a13 a14, m = [a0, a1, a2, a3, a4, a5, a6, a7, a8, a9, a10, a11, a12, a13, a14] := by
  match m, h with
  | [a0, a1, a2, a3, a4, a5, a6, a7, a8, a9, a10, a11, a12, a13, a14], _ => exact ⟨a0, a1, a2, a3, a4, a5, a6, a7, a8, a9, a10, a11, a12, a13, a14, rfl⟩

/-- Element i is not before its parent, for all i below k. -/
def heapUpto (ms : List (List Int)) (k : Nat) : Bool := (List.range k).all fun i => i == 0 || !bef (ms.getD i []) (ms.getD ((i - 1) / 2) [])
def heapB (ms : List (List Int)) : Bool := heapUpto ms ms.length

theorem heapUpto_succ (ms : List (List Int)) (k : Nat) : heapUpto ms (k + 1) = (heapUpto ms k && (k == 0 || !bef (ms.getD k []) (ms.getD ((k - 1) / 2) []))) := by
  simp [heapUpto, List.range_succ, List.all_append]
theorem heapUpto_le (ms : List (List Int)) (k n : Nat) (h : k ≤ n) (hn : heapUpto ms n = true) : heapUpto ms k = true := by
  simp only [heapUpto, List.all_eq_true, List.mem_range] at hn ⊢
  intro i hi
  exact hn i (by omega)

end Go.Proofs.Qxb6617920a
