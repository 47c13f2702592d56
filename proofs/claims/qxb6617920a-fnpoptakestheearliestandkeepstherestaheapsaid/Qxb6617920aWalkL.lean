import Derived.Test.Qxb6617920aWalkK
namespace Go.Proofs.Qxb6617920a
open Go.RowKit
set_option linter.unusedSimpArgs false
set_option linter.unusedVariables false

theorem Kb.of_alloc {g : Nat} {w w' : World} {o : Obj} (h : Kb g (w.alloc o).heap.size (w.alloc o) w') : Kb g w.heap.size w w' :=
  ⟨h.os, h.tape, h.output, by have := h.size; simp at this; omega, fun k hk hne => (h.block k (by simp; omega) hne).trans (Below.heap_alloc _ _ _ hk)⟩

section
attribute [local go_sem ↓] exec_ld40
set_option maxHeartbeats 800000 in
theorem zzPush_any (g q0 : Nat) (ms : List (List Int)) (m : List Int) (now seq : Int) (loads : Value) (hms : ∀ m ∈ ms, m.length = 15) (hm : m.length = 15) (w : World)
    (hg : w.heap[g]? = some (.cells (nwCells now (.slice (some ⟨q0, 0, none⟩) ms.length ms.length) seq loads) 55 (0, 0))) (hr : Rows15 w q0 0 ms) (hag : q0 ≠ g) (hn : ms.length ≤ 1000000) :
    Calls Try.prog 21 #[.pointer (some ⟨g, 0, none⟩), .agg (mc m).toArray] w fun e w' => e = .returned (.tuple #[]) ∧ ∃ gq cq L, w'.heap[g]? = some (.cells (nwCells now (.slice (some ⟨gq, 0, none⟩) (ms.length + 1) cq) (IntKind.u64.wrap (seq + 1)) loads) 55 (0, 0)) ∧
      L.length = ms.length + 1 ∧ (∀ m ∈ L, m.length = 15) ∧ Rows15 w' gq 0 L ∧ L.Perm (ms ++ [m.set 2 (IntKind.u64.wrap (seq + 1))]) ∧ (Heap ms → Heap L) ∧ Kb g w.heap.size w w' := by
  have hl : Sem.run Try.prog (ldS 40 (.pointer (some ⟨w.heap.size, 0, none⟩))) (w.alloc (.cells (mc m).toArray 40)) = .ok (.value (.agg (mc m).toArray)) (w.alloc (.cells (mc m).toArray 40)) := run_ld40 (range_of_mc (heap_alloc_new _ _)) hm
  have hgl : g < w.heap.size := block_lt_of_cell (nw_cell hg).1
  have hg' := (Below.heap_alloc w (.cells (mc m).toArray 40) g hgl).trans hg
  have HC : Hid (Calls Try.prog 27 _ _ _) := push_any g q0 ms m now seq loads hms hm (w.alloc (.cells (mc m).toArray 40)) hg' (fun i hi => World.rangeAt_alloc (hr i hi) _) hag hn
  clear hg hg' hr
  go_enter Try.func21, Try.ntmps21
  go_wp2_with fail
  refine HC.out.mono ?_
  rintro e w1 ⟨rfl, gq, cq, L, h1, h2, h3, h4, h5, h6, h7⟩
  clear HC hl
  go_wp2
  go_end0
  exact ⟨rfl, gq, cq, L, h1, h2, h3, h4, h5, h6, h7.of_alloc⟩
end

set_option maxHeartbeats 800000 in
theorem zzBytesPush_any (now seq : Int) (a b : Option Addr) (n1 c1 n2 c2 : Nat) (m : Array Value) (w : World) (h1 : n1 ≤ 9223372036854775807) (h2 : n2 ≤ 9223372036854775807) :
    Calls Try.prog 20 #[.int .i64 now, .int .u64 seq, .slice a n1 c1, .slice b n2 c2, .agg m] w fun e w' => ∃ t, e = .returned (.bool t) ∧ Below w.heap.size w w' := by
  by_cases k1 : 1048576 < n1
  · go_enter Try.func20, Try.ntmps20
    go_wp2
    go_ret
    exact ⟨_, rfl, (Below.refl _ _).alloc (Nat.le_refl _) _⟩
  · by_cases k2 : 1048576 < n2
    · go_enter Try.func20, Try.ntmps20
      go_wp2
      go_ret
      exact ⟨_, rfl, (Below.refl _ _).alloc (Nat.le_refl _) _⟩
    · by_cases k3 : 1048576 < n1 + n2
      · go_enter Try.func20, Try.ntmps20
        go_wp2
        go_ret
        exact ⟨_, rfl, (Below.refl _ _).alloc (Nat.le_refl _) _⟩
      · go_enter Try.func20, Try.ntmps20
        go_wp2
        go_ret
        exact ⟨_, rfl, (Below.refl _ _).alloc (Nat.le_refl _) _⟩

end Go.Proofs.Qxb6617920a
