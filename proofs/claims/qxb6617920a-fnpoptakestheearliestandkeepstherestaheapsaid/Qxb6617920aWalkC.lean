import Derived.Test.Qxb6617920aWalkA
namespace Go.Proofs.Qxb6617920a
open Go.RowKit
set_option linter.unusedSimpArgs false
set_option linter.unusedVariables false
attribute [local go_sem ↓] exec_st40

set_option maxHeartbeats 800000 in
theorem makeMessage_any (a0 a1 a2 a3 a4 a5 a6 a7 a8 a9 a10 a11 a12 a13 a14 : Int) (w : World) :
    Calls Try.prog 28 #[.int .i64 a0, .int .i64 a1, .int .u64 a2, .int .i64 a3, .int .i64 a4, .int .u8 a5, .int .u8 a6, .int .i64 a7, .int .i64 a8, .int .i64 a9, .int .i64 a10, .int .i64 a11, .int .i64 a12, .int .i64 a13, .int .i64 a14] w fun e w' =>
      e = .returned (.agg (mc [a0, a1, a2, a3, a4, a5, a6, a7, a8, a9, a10, a11, a12, a13, a14]).toArray) ∧ Below w.heap.size w w' := by
  have hst := fun old ho => run_st40_row (w := w.alloc (.cells old 40)) (m := [a0, a1, a2, a3, a4, a5, a6, a7, a8, a9, a10, a11, a12, a13, a14]) (heap_alloc_new _ _) ho rfl
  simp only [setRow_alloc_new, mc, KS, List.zipWith] at hst
  go_enter Try.func28, Try.ntmps28
  go_wp2
  refine bodyPost_ret (results_cell_row (P := Try.prog) rfl _ _ w.heap.size 40 _ (0, 0) _ rfl (heap_alloc_new _ _) Try.underlying40 rfl (by rw [Try.size40]; rfl)) rfl ⟨rfl, ?_⟩
  exact (Below.refl _ _).alloc (Nat.le_refl _) _

set_option maxHeartbeats 800000 in
theorem toSim_any (m : List Int) (hm : m.length = 15) (w : World) :
    Calls Try.prog 22 #[.agg (mc m).toArray] w fun e w' => e = .returned (.agg (mc m).toArray) ∧ Below w.heap.size w w' := by
  obtain ⟨a0, a1, a2, a3, a4, a5, a6, a7, a8, a9, a10, a11, a12, a13, a14, rfl⟩ := list15 m hm
  have hst := fun (w1 : World) (old : Array Value) (hg : w1.heap[w.heap.size + 1]? = some (.cells old 40)) ho => run_st40_row (w := w1) (m := [a0, a1, a2, a3, a4, a5, a6, a7, a8, a9, a10, a11, a12, a13, a14]) hg ho rfl
  have HM : Hid (∀ w, _) := fun w => makeMessage_any a0 a1 a2 a3 a4 a5 a6 a7 a8 a9 a10 a11 a12 a13 a14 w
  simp only [mc, KS, List.zipWith] at hst HM ⊢
  clear hm
  go_enter Try.func22, Try.ntmps22
  go_wp2_with (go_at_call 28; refine (HM.out _).mono ?_; rintro e w1 ⟨rfl, hb⟩; have hst1 := hst w1 _ ((hb.block (w.heap.size + 1) (by simp)).trans (heap_alloc2_new _ _ _)) rfl; clear hst)
  refine bodyPost_ret (results_cell_row (P := Try.prog) rfl _ _ (w.heap.size + 1) 40 _ (0, 0) _ rfl (setRow_heap _ _ _ _ 40 (0, 0) ((hb.block (w.heap.size + 1) (by simp)).trans (heap_alloc2_new _ _ _))) Try.underlying40 rfl (by rw [Try.size40]; rfl)) rfl ⟨rfl, ?_⟩
  exact below_setRow ((below2 _ _ _).trans (hb.mono (by simp; omega))) (by omega) _

end Go.Proofs.Qxb6617920a
