import Derived.Test.Qxb6617920aWalkO
namespace Go.Proofs.Qxb6617920a
open Go.RowKit
set_option linter.unusedSimpArgs false
set_option linter.unusedVariables false

section
attribute [local go_sem ↓] exec_st40
set_option maxHeartbeats 800000 in
theorem zzPop_any (g q0 gl : Nat) (ms : List (List Int)) (N : Nat) (now seq : Int) (zs : List Int) (cl : Nat) (hN : ms.length = N + 1) (hms : ∀ m ∈ ms, m.length = 15) (w : World)
    (hg : w.heap[g]? = some (.cells (nwCells now (.slice (some ⟨q0, 0, none⟩) (N + 1) (N + 1)) seq (.slice (some ⟨gl, 0, none⟩) zs.length cl)) 55 (0, 0)))
    (hr : Rows15 w q0 0 ms) (ht : w.there q0 0 ((N + 1) * 15)) (hgl : w.heap[gl]? = some (.cells (iv zs).toArray 2 (0, 0))) (he : Ends (gt ms 0) zs.length)
    (h1 : q0 ≠ g) (h2 : gl ≠ g) (h3 : gl ≠ q0) (hn : N ≤ 1000000) (hzn : zs.length ≤ 1000000) :
    Calls Try.prog 13 #[.pointer (some ⟨g, 0, none⟩)] w fun e w' => e = .returned (.agg (mc (gt ms 0)).toArray) ∧ Hid (PopPost g q0 gl ms N seq zs cl w w') := by
  have hgs : g < w.heap.size := block_lt_of_cell (nw_cell hg).1
  have hqs : q0 < w.heap.size := there_lt ht (by omega)
  have hgls : gl < w.heap.size := block_lt_of_cell (loads_cell hgl he.1 he.2.1)
  have hxl : (gt ms 0).length = 15 := getD_len15 hms (by omega)
  have HC : Hid (Calls Try.prog 25 _ _ _) := pop_any g q0 gl ms N now seq zs cl hN hms (w.alloc (.cells (mc zeros15).toArray 40)) ((Below.heap_alloc _ _ _ hgs).trans hg) (fun i hi => World.rangeAt_alloc (hr i hi) _) (World.there_alloc ht _) ((Below.heap_alloc _ _ _ hgls).trans hgl) he h1 h2 h3 hn hzn
  rw [show (mc zeros15).toArray = #[.int .i64 0, .int .i64 0, .int .u64 0, .int .i64 0, .int .i64 0, .int .u8 0, .int .u8 0, .int .i64 0, .int .i64 0, .int .i64 0, .int .i64 0, .int .i64 0, .int .i64 0, .int .i64 0, .int .i64 0] from rfl] at HC
  obtain ⟨x, hx⟩ : ∃ x, x = gt ms 0 := ⟨_, rfl⟩
  rw [← hx] at HC hxl ⊢
  clear hg hr ht hgl hx he
  go_enter Try.func13, Try.ntmps13
  go_wp2_with fail
  refine HC.out.mono ?_
  rintro e w1 ⟨rfl, HP⟩
  obtain ⟨L, a1, a2, a3, a4, a5, a6, a7, a8⟩ := HP.out
  have hZ := (a8.block w.heap.size (by simp) (by omega) (by omega) (by omega)).trans (heap_alloc_new _ _)
  have sm := run_st40_row hZ rfl hxl
  have HZ : Hid (w1.heap[w.heap.size]? = _) := hZ
  clear HC hZ a1 a2 a3 a4 a5 a6 a7 a8
  go_wp2
  refine bodyPost_ret (results_cell_row (P := Try.prog) rfl _ _ w.heap.size 40 _ (0, 0) _ rfl (setRow_heap _ _ _ _ 40 (0, 0) HZ.out) Try.underlying40 rfl (by rw [Try.size40]; simp [mc_length x hxl])) rfl ⟨rfl, ?_⟩
  obtain ⟨L, a1, a2, a3, a4, a5, a6, a7, a8⟩ := HP.out
  have b : Below w.heap.size w1 (w1.setRow w.heap.size (mc x).toArray) := below_setRow (Below.refl _ _) (Nat.le_refl _) _
  refine ⟨L, (b.block g hgs).trans a1, a2, a3, rows_below b a4 hqs, a5, a6, (b.block gl hgls).trans a7, ?_⟩
  exact ⟨b.os.trans a8.os, b.tape.trans a8.tape, b.output.trans a8.output, by have := a8.size; have := b.size; simp at *; omega, fun k hk h1 h2 h3 => (b.block k hk).trans ((a8.block k (by simp; omega) h1 h2 h3).trans (Below.heap_alloc _ _ _ hk))⟩
end
end Go.Proofs.Qxb6617920a
