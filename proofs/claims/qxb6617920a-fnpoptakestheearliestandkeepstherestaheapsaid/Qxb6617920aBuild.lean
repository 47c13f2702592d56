import Derived.Test.Qxb6617920aBase
namespace Go.Proofs.Qxb6617920a
open Go.RowKit
set_option linter.unusedSimpArgs false
set_option linter.unusedVariables false

/-- '[]T{v}' (what append's one element is laid into), kept whole from the walk's simp. -/
def bsS (t : TypeId) (v : Value) : Sem Next := do pure (.value (← Instr.buildSlice t 1 #[(0, v)]))
theorem exec_bs30 (f : Operand → Value) (dst : Option Tmp) (x : Operand) (ty : TypeId) (pos : String) (after : Array Edge) (g : Option (Nat × Bool)) :
    execOp f ⟨dst, .buildSlice 30 1 #[(0, x)], ty, pos, after, g⟩ = bsS 30 (f x) := by simp [execOp, bsS]
theorem exec_bs24 (f : Operand → Value) (dst : Option Tmp) (x : Operand) (ty : TypeId) (pos : String) (after : Array Edge) (g : Option (Nat × Bool)) :
    execOp f ⟨dst, .buildSlice 24 1 #[(0, x)], ty, pos, after, g⟩ = bsS 24 (f x) := by simp [execOp, bsS]

set_option maxHeartbeats 800000 in
theorem run_bs30 (m : List Int) (hm : m.length = 15) (w : World) :
    Sem.run Try.prog (bsS 30 (.agg (mc m).toArray)) w = .ok (.value (.slice (some ⟨w.heap.size, 0, none⟩) 1 1)) (w.alloc (.cells (mc m).toArray 40)) := by
  obtain ⟨i, hi, hz, hs, hb⟩ := info_parts Try.info40
  obtain ⟨a0, a1, a2, a3, a4, a5, a6, a7, a8, a9, a10, a11, a12, a13, a14, rfl⟩ := list15 m hm
  have hu := Try.underlying30
  simp [bsS, Instr.buildSlice, run_underlying hu, sizeOf, typeInfo, zeroValue, hi, hz, hs, Value.cells, mc, KS, List.zipWith, zeros15, newRow, Instr.fill, Array.range_succ, go_sem]
set_option maxHeartbeats 800000 in
theorem run_bs24 (m : List Int) (hm : m.length = 15) (w : World) :
    Sem.run Try.prog (bsS 24 (.agg (mc m).toArray)) w = .ok (.value (.slice (some ⟨w.heap.size, 0, none⟩) 1 1)) (w.alloc (.cells (mc m).toArray 34)) := by
  obtain ⟨i, hi, hz, hs, hb⟩ := info_parts Try.info34
  obtain ⟨a0, a1, a2, a3, a4, a5, a6, a7, a8, a9, a10, a11, a12, a13, a14, rfl⟩ := list15 m hm
  have hu := Try.underlying24
  simp [bsS, Instr.buildSlice, run_underlying hu, sizeOf, typeInfo, zeroValue, hi, hz, hs, Value.cells, mc, KS, List.zipWith, zeros15, newRow, Instr.fill, Array.range_succ, go_sem]

/-- The messages ms as one row of cells. -/
def flat (ms : List (List Int)) : List Value := ms.flatMap mc
theorem flat_length : ∀ (ms : List (List Int)), (∀ m ∈ ms, m.length = 15) → (flat ms).length = ms.length * 15
  | [], _ => rfl
  | m :: ms, h => by
    have := flat_length ms (fun x hx => h x (List.mem_cons_of_mem _ hx))
    simp only [flat, List.flatMap_cons, List.length_append, List.length_cons] at this ⊢
    rw [this, mc_length m (h m List.mem_cons_self)]; omega
theorem flat_get : ∀ (ms : List (List Int)), (∀ m ∈ ms, m.length = 15) → ∀ i j, i < ms.length → j < 15 → (flat ms)[i * 15 + j]? = (mc (ms.getD i []))[j]?
  | [], _, _, _, h, _ => by simp at h
  | m :: ms, h, 0, j, _, hj => by
    have hl := mc_length m (h m List.mem_cons_self)
    simp only [flat, List.flatMap_cons, List.getD_cons_zero]
    rw [List.getElem?_append_left (by omega)]; congr 1; omega
  | m :: ms, h, i + 1, j, hi, hj => by
    have hl := mc_length m (h m List.mem_cons_self)
    have ih := flat_get ms (fun x hx => h x (List.mem_cons_of_mem _ hx)) i j (by simpa using hi) hj
    simp only [flat, List.flatMap_cons, List.getD_cons_succ] at ih ⊢
    rw [List.getElem?_append_right (by omega), ← ih]; congr 1; omega
theorem flat_append (a b : List (List Int)) : flat (a ++ b) = flat a ++ flat b := by simp [flat]

theorem range_of_rows {w : World} {b off : Nat} {ms : List (List Int)} (hm : ∀ m ∈ ms, m.length = 15) (h : Rows15 w b off ms) : w.rangeAt b off (flat ms) := fun j v hv => by
  have hl := flat_length ms hm
  have hj : j < (flat ms).length := (List.getElem?_eq_some_iff.1 hv).1
  have e : j = j / 15 * 15 + j % 15 := by omega
  have hi : j / 15 < ms.length := by omega
  have hr : j % 15 < 15 := by omega
  rw [e, flat_get ms hm _ _ hi hr] at hv
  have := h _ hi _ _ hv
  rwa [show off + j / 15 * 15 + j % 15 = off + j by omega] at this
theorem rows_of_range {w : World} {b off : Nat} {ms : List (List Int)} (hm : ∀ m ∈ ms, m.length = 15) (h : w.rangeAt b off (flat ms)) : Rows15 w b off ms := fun i hi j v hv => by
  have hl := mc_length _ (getD_len15 hm hi)
  have hj : j < 15 := by have := (List.getElem?_eq_some_iff.1 hv).1; omega
  have := h (i * 15 + j) v (by rw [flat_get ms hm i j hi hj]; exact hv)
  rwa [show off + (i * 15 + j) = off + i * 15 + j by omega] at this
theorem flat_one (ms : List (List Int)) : ∀ u ∈ flat ms, u.oneCell' = true := fun u hu => by
  simp only [flat, List.mem_flatMap] at hu
  obtain ⟨m, _, h⟩ := hu
  have := oneCell_mc m
  exact (Array.all_eq_true_iff_forall_mem.1 this) u (by simpa using h)

/-- What a slice that the call owns gives: its messages lie there, and may be written. -/
theorem rows_of_owns {w : World} {base e g n cap : Nat} {ms : List (List Int)} (hm : ∀ m ∈ ms, m.length = 15) (hn : ms.length = n) (h : w.ownsRow base e 15 (.slice (some ⟨g, 0, none⟩) n cap) n (flat ms)) :
    Rows15 w g 0 ms ∧ w.there g 0 (n * 15) := by
  subst hn
  refine ⟨rows_of_range hm (fun j v hv => ?_), fun j hj => ⟨?_, h.frozenAt _⟩⟩
  · have hj : j < (flat ms).length := (List.getElem?_eq_some_iff.1 hv).1
    rw [h.cellAt (0 + j) (by rw [flat_length ms hm] at hj; omega), Nat.zero_add]; exact hv
  · rw [h.cellAt (0 + j) (by omega), Nat.zero_add]
    have := flat_length ms hm
    simp; omega

/-- append on slices of messages, kept whole from the walk's simp. -/
def apV (t ty : TypeId) (args : Array Value) : Sem Value := Builtin.append_ #[t, t] ty args
theorem fold_ap30 (ty : TypeId) (args : Array Value) : Builtin.append_ #[30, 30] ty args = apV 30 ty args := rfl
theorem fold_ap24 (ty : TypeId) (args : Array Value) : Builtin.append_ #[24, 24] ty args = apV 24 ty args := rfl

/-- append within the capacity, onto a row that the call owns. -/
theorem app24 {wr : World} {base gw k cap : Nat} {L : List (List Int)} (x : List Int) (hL : ∀ m ∈ L, m.length = 15) (hx : x.length = 15) (hk : L.length = k) (hown : wr.ownsRow base 34 15 (.slice (some ⟨gw, 0, none⟩) k cap) k (flat L)) (hroom : k + 1 ≤ cap) :
    ∃ w1, Sem.run Try.prog (apV 24 24 #[.slice (some ⟨gw, 0, none⟩) k cap, .slice (some ⟨wr.heap.size, 0, none⟩) 1 1]) (wr.alloc (.cells (mc x).toArray 34)) = .ok (.slice (some ⟨gw, 0, none⟩) (k + 1) cap) w1 ∧
      w1.ownsRow base 34 15 (.slice (some ⟨gw, 0, none⟩) (k + 1) cap) (k + 1) (flat (L ++ [x])) ∧ Below gw wr w1 := by
  obtain ⟨i0, hi0, hz0, hz1, hz2⟩ := info_parts Try.info34
  have hlt : gw < wr.heap.size := (hown.lt gw rfl).2
  obtain ⟨w1, hrun, ho, hg⟩ := run_append_fits (P := Try.prog) (wr.alloc (.cells (mc x).toArray 34)) base 24 24 34 i0 15 Try.underlying24 hi0 hz1 gw k cap (flat L) (hown.alloc _) ⟨wr.heap.size, 0, none⟩ 1 1 (mc x) (by rw [mc_length x hx])
    (fun j u hu => by
      rw [Addr.add_mid, cell_of_row _ wr.heap.size (0 + j) _ 34 (0, 0) (heap_alloc_new _ _)]; simpa using hu)
    (fun u hu => (Array.all_eq_true_iff_forall_mem.1 (oneCell_mc x)) u (by simpa using hu)) hroom
  have e : flat (L ++ [x]) = flat L ++ mc x := by rw [flat_append]; simp [flat]
  refine ⟨w1, hrun, by rw [e]; exact ho, ⟨hg.os, hg.tape, hg.output, by have := hg.size; simp at this; omega, fun j hj => ?_⟩⟩
  rw [hg.block j (by simp; omega) (by simp; omega)]
  exact Below.heap_alloc _ _ _ (by omega)

theorem run_make34_0 (n : Nat) (hn : n ≤ 1000000) (w : World) : (Instr.makeSlice 24 (.int .i64 0) (.int .i64 ((n : Int) + 1))).run Try.prog w = .ok (.slice (some ⟨w.heap.size, 0, none⟩) 0 (n + 1)) (w.alloc (.cells (made15 (n + 1)) 34)) := by
  obtain ⟨i, hi, hz, hs, hb⟩ := info_parts Try.info34
  have := run_make (P := Try.prog) w 24 34 i _ Try.underlying24 hi hz .i64 .i64 0 ((n : Int) + 1) (by omega) (by omega) (by rw [hb]; omega) (by omega)
  rw [this]
  have e : ((n : Int) + 1).toNat = n + 1 := by omega
  simp [hs, made15, Value.cells, e]

end Go.Proofs.Qxb6617920a
