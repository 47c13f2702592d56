import Derived.Test.Qxb6617920aWalkC
import Derived.Deep.QuietTactic
import Derived.BigQuiet
import Derived.WalkLawsBesides
namespace Go.Proofs.Qxb6617920a
open Go.RowKit
set_option linter.unusedSimpArgs false
set_option linter.unusedVariables false

/-- A network's cells. -/
def nwCells (now : Int) (q : Value) (seq : Int) (loads : Value) : Array Value :=
  #[.int .i64 0, .int .i64 now, q, .int .u64 seq, loads, .slice none 0 0, .slice none 0 0, .float .f64 0, .int .i64 0, .slice none 0 0, .slice none 0 0]

set_option maxHeartbeats 800000 in
theorem makeNetwork_any (now seq : Int) (a b : Option Addr) (n c n' c' : Nat) (w : World) :
    Calls Try.prog 9 #[.int .i64 now, .slice a n c, .int .u64 seq, .slice b n' c'] w fun e w' =>
      e = .returned (.pointer (some ⟨w.heap.size, 0, none⟩)) ∧ w' = w.alloc (.cells (nwCells now (.slice a n c) seq (.slice b n' c')) 55) := by
  go_enter Try.func9, Try.ntmps9
  go_wp2
  go_ret
  exact ⟨rfl, rfl⟩

set_option maxHeartbeats 800000 in
theorem nwQueue_any (g : Nat) (v : Value) (w : World) (h : w.cell? ⟨g, 2, none⟩ = some v) :
    Calls Try.prog 26 #[.pointer (some ⟨g, 0, none⟩)] w fun e w' => e = .returned v ∧ w' = w := by
  go_enter Try.func26, Try.ntmps26
  go_wp2
  go_ret
  exact ⟨rfl, rfl⟩
set_option maxHeartbeats 800000 in
theorem nwNow_any (g : Nat) (v : Value) (w : World) (h : w.cell? ⟨g, 1, none⟩ = some v) :
    Calls Try.prog 15 #[.pointer (some ⟨g, 0, none⟩)] w fun e w' => e = .returned v ∧ w' = w := by
  go_enter Try.func15, Try.ntmps15
  go_wp2
  go_ret
  exact ⟨rfl, rfl⟩
set_option maxHeartbeats 800000 in
theorem nwSeq_any (g : Nat) (v : Value) (w : World) (h : w.cell? ⟨g, 3, none⟩ = some v) :
    Calls Try.prog 16 #[.pointer (some ⟨g, 0, none⟩)] w fun e w' => e = .returned v ∧ w' = w := by
  go_enter Try.func16, Try.ntmps16
  go_wp2
  go_ret
  exact ⟨rfl, rfl⟩
set_option maxHeartbeats 800000 in
theorem nwLoads_any (g : Nat) (v : Value) (w : World) (h : w.cell? ⟨g, 4, none⟩ = some v) :
    Calls Try.prog 18 #[.pointer (some ⟨g, 0, none⟩)] w fun e w' => e = .returned v ∧ w' = w := by
  go_enter Try.func18, Try.ntmps18
  go_wp2
  go_ret
  exact ⟨rfl, rfl⟩

set_option maxHeartbeats 1600000 in
theorem fields_any (a0 a1 a2 a3 a4 a5 a6 a7 a8 a9 a10 a11 a12 a13 a14 : Int) (w : World) :
    Calls Try.prog 24 #[.agg #[.int .i64 a0, .int .i64 a1, .int .u64 a2, .int .i64 a3, .int .i64 a4, .int .u8 a5, .int .u8 a6, .int .i64 a7, .int .i64 a8, .int .i64 a9, .int .i64 a10, .int .i64 a11, .int .i64 a12, .int .i64 a13, .int .i64 a14]] w fun e w' =>
      e = .returned (.tuple #[.int .i64 a0, .int .i64 a1, .int .u64 a2, .int .i64 a3, .int .i64 a4, .int .u8 a5, .int .u8 a6, .int .i64 a7, .int .i64 a8, .int .i64 a9, .int .i64 a10, .int .i64 a11, .int .i64 a12, .int .i64 a13, .int .i64 a14]) ∧ Below w.heap.size w w' := by
  go_enter Try.func24, Try.ntmps24
  go_wp2_with fail
  go_quiet (fail)
  go_wp2
  refine bodyPost_ret (v := .tuple #[.int .i64 a0, .int .i64 a1, .int .u64 a2, .int .i64 a3, .int .i64 a4, .int .u8 a5, .int .u8 a6, .int .i64 a7, .int .i64 a8, .int .i64 a9, .int .i64 a10, .int .i64 a11, .int .i64 a12, .int .i64 a13, .int .i64 a14]) (by simp [results, Try.results24, go_sem]) rfl ⟨rfl, ?_⟩
  exact below_drewN ((Below.refl _ _).alloc (Nat.le_refl _) _) _
section
attribute [local go_sem ↓] exec_ld40 exec_st34
set_option maxHeartbeats 1600000 in
theorem fromSim_any (m : List Int) (hm : m.length = 15) (w : World) :
    Calls Try.prog 12 #[.agg (mc m).toArray] w fun e w' => e = .returned (.agg (mc m).toArray) ∧ Below w.heap.size w w' := by
  have hl : ∀ o, Sem.run Try.prog (ldS 40 (.pointer (some ⟨w.heap.size, 0, none⟩))) ((w.alloc (.cells (mc m).toArray 40)).alloc o) = .ok (.value (.agg (mc m).toArray)) ((w.alloc (.cells (mc m).toArray 40)).alloc o) := fun o => by
    refine run_ld40 (World.rangeAt_alloc (fun j v hv => ?_) _) hm
    rw [cell_of_row _ w.heap.size (0 + j) _ 40 (0, 0) (heap_alloc_new _ _)]
    simpa using hv
  obtain ⟨a0, a1, a2, a3, a4, a5, a6, a7, a8, a9, a10, a11, a12, a13, a14, rfl⟩ := list15 m hm
  have hst := fun (w1 : World) (old : Array Value) (hg : w1.heap[w.heap.size + 1]? = some (.cells old 34)) ho => run_st34_row (w := w1) (m := [a0, a1, a2, a3, a4, a5, a6, a7, a8, a9, a10, a11, a12, a13, a14]) hg ho rfl
  simp only [mc, KS, List.zipWith] at hst hl ⊢
  clear hm
  go_enter Try.func12, Try.ntmps12
  go_wp2_with (go_at_call 24; refine (fields_any _ _ _ _ _ _ _ _ _ _ _ _ _ _ _ _).mono ?_; rintro e w1 ⟨rfl, hb⟩; have hst1 := hst w1 _ ((hb.block (w.heap.size + 1) (by simp)).trans (heap_alloc2_new _ _ _)) rfl; clear hst)
  refine bodyPost_ret (results_cell_row (P := Try.prog) rfl _ _ (w.heap.size + 1) 34 _ (0, 0) _ rfl (setRow_heap _ _ _ _ 34 (0, 0) ((hb.block (w.heap.size + 1) (by simp)).trans (heap_alloc2_new _ _ _))) Try.underlying34 rfl (by rw [Try.size34]; rfl)) rfl ⟨rfl, ?_⟩
  exact below_setRow ((below2 _ _ _).trans (hb.mono (by simp; omega))) (by omega) _
end

end Go.Proofs.Qxb6617920a
