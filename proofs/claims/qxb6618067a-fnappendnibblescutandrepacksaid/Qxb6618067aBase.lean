/- Seat b6618067a: small laws on memory: bytes that are read, bytes that are owned; zzBytes; cloneBytes; equalBytes; compareBytes. -/
import Derived.Test.Qxb6618067aProg
import Derived.Test.Qxb6618067aPlain
import Derived.WalkKit
import Derived.WalkSpells
import Derived.WalkLawsBesides
import Derived.KernelRfl
import Derived.Deep.MidRow
import Derived.Deep.AppendLies
import Derived.Deep.QuietTactic
import Derived.BigQuiet
namespace Go.Proofs.Qxb6618067a
open Go.RowKit
set_option linter.unusedSimpArgs false
set_option linter.unusedVariables false

def bv (zs : List Int) : List Value := zs.map (Value.int .u8)
theorem bv_length (zs : List Int) : (bv zs).length = zs.length := by simp [bv]
theorem bv_append (a b : List Int) : bv (a ++ b) = bv a ++ bv b := by simp [bv]
theorem bv_get {zs : List Int} {k : Nat} (h : k < zs.length) : (bv zs)[k]? = some (.int .u8 (zs.getD k 0)) := by simp [bv, List.getD_eq_getElem?_getD, h]
theorem Try.info5 : (Try.prog.info? 5).map (fun i => (i.zero, i.size, i.bytes)) = some (some (.int .u8 0), 1, 1) := by kernel_rfl

/-- The bytes zs are read at v, below base. -/
def In (base : Nat) (w : World) (v : Value) (zs : List Int) : Prop := (v = .slice none 0 0 ∧ zs = []) ∨ ∃ (x : Addr) (cap : Nat), v = .slice (some x) zs.length cap ∧ zs.length ≤ cap ∧ cap ≤ maxLen ∧ (0 < zs.length → ∃ b off, x = ⟨b, off, none⟩ ∧ b < base ∧ w.rangeAt b off (bv zs))

theorem In.below {B : Nat} {w w' : World} {v : Value} {zs : List Int} (h : In B w v zs) (b : Below B w w') : In B w' v zs := by
  rcases h with h | ⟨x, cap, h1, h2, h3, h4⟩
  · exact Or.inl h
  · refine Or.inr ⟨x, cap, h1, h2, h3, fun hz => ?_⟩
    obtain ⟨g, off, rfl, h4, h5⟩ := h4 hz
    exact ⟨g, off, rfl, h4, fun j u hu => by rw [b.cell (p := ⟨g, off + j, none⟩) h4]; exact h5 j u hu⟩
theorem In.mono {B B' : Nat} {w : World} {v : Value} {zs : List Int} (h : In B w v zs) (b : B ≤ B') : In B' w v zs := by
  rcases h with h | ⟨x, cap, h1, h2, h3, h4⟩
  · exact Or.inl h
  · refine Or.inr ⟨x, cap, h1, h2, h3, fun hz => ?_⟩
    obtain ⟨g, off, rfl, h4, h5⟩ := h4 hz
    exact ⟨g, off, rfl, by omega, h5⟩
/-- What is owned is read. -/
theorem In.owned {base : Nat} {w : World} {v : Value} {zs : List Int} (h : w.ownsRow base 5 1 v zs.length (bv zs)) : In w.heap.size w v zs := by
  rcases h.2 with ⟨h1, h2⟩ | ⟨g, cap, cur, h1, h2, h3, h4, h5, h6, h7⟩
  · exact Or.inl ⟨h1, List.eq_nil_of_length_eq_zero h2⟩
  · refine Or.inr ⟨⟨g, 0, none⟩, cap, h1, h4, h5, fun hz => ⟨g, 0, rfl, (Array.getElem?_eq_some_iff.1 h3).1, fun j u hu => ?_⟩⟩
    rw [cell_of_row w g (0 + j) cur 5 (0, 0) h3]
    rw [← h7] at hu
    rw [List.getElem?_take] at hu
    split at hu
    · simpa using hu
    · cases hu

set_option maxHeartbeats 800000 in
theorem clone_nil (w : World) : Calls Try.prog 6 #[.slice none 0 0] w fun e w' => e = .returned (.slice none 0 0) ∧ w' = w := by
  have heq := fun w => Go.Lib.run_eql_slice_nil (P := Try.prog) w 22 5 none 0 0 0 0 Try.underlying22
  go_enter Try.func6, Try.ntmps6
  go_wp2
  go_ret
  exact ⟨rfl, rfl⟩

set_option maxHeartbeats 1600000 in
theorem clone_some (x : Addr) (cap : Nat) (zs : List Int) (w : World) (hr : 0 < zs.length → ∃ b off, x = ⟨b, off, none⟩ ∧ b < w.heap.size ∧ w.rangeAt b off (bv zs)) (hn : zs.length ≤ 1000000) :
    Calls Try.prog 6 #[.slice (some x) zs.length cap] w fun e w' => e = .returned (.slice (some ⟨w.heap.size, 0, none⟩) zs.length zs.length) ∧ w'.ownsRow w.heap.size 5 1 (.slice (some ⟨w.heap.size, 0, none⟩) zs.length zs.length) zs.length (bv zs) ∧ Below w.heap.size w w' := by
  obtain ⟨i, hi, hz, hs, hby⟩ := info_parts Try.info5
  have hmk : ∀ w : World, (Instr.makeSlice 22 (.int .i64 zs.length) (.int .i64 zs.length)).run Try.prog w = .ok (.slice (some ⟨w.heap.size, 0, none⟩) zs.length zs.length) (w.alloc (.cells (madeCells #[.int .u8 0] zs.length) 5)) := fun w => by
    have := run_make (P := Try.prog) w 22 5 i _ Try.underlying22 hi hz .i64 .i64 zs.length zs.length (by omega) (by omega) (by rw [hby]; omega) (by omega)
    rw [this]
    simp [hs, Value.cells]
  clear hi hz hs hby
  have heq := fun w => Go.Lib.run_eql_slice_nil (P := Try.prog) w 22 5 (some x) zs.length cap 0 0 Try.underlying22
  go_enter Try.func6, Try.ntmps6
  go_wp2
  clear hmk heq
  go_loopw [4] (fun x wr => ∃ (k : Nat) (cur : Array Value), x = .int .i64 k ∧ k ≤ zs.length ∧ wr.heap[w.heap.size]? = some (.cells cur 5 (0, 0)) ∧ cur.size = zs.length ∧ Hid (∀ j, j < k → cur[j]? = some (.int .u8 (zs.getD j 0))) ∧ Below w.heap.size w wr) (fun x _ => zs.length - (intOf x).toNat)
  case atStart => exact ⟨0, _, rfl, Nat.zero_le _, heap_alloc_new _ _, size_madeCells _ _, fun j hj => by omega, (Below.refl _ _).alloc (Nat.le_refl _) _⟩
  case round =>
    obtain ⟨k, cur, rfl, hk, hc, hcs, HC, hbl⟩ := hrel
    by_cases hlt : k < zs.length
    · have hk2 : (k : Int) < (zs.length : Int) := by omega
      obtain ⟨b, off, rfl, hb, hr⟩ := hr (by omega)
      have h1 := hr k _ (bv_get hlt)
      rw [← hbl.cell (p := ⟨b, off + k, none⟩) hb] at h1
      obtain ⟨z, hz⟩ : ∃ z, z = zs.getD k 0 := ⟨_, rfl⟩
      rw [← hz] at h1
      have h2 : wr.cell? ⟨w.heap.size, k, none⟩ = some (cur[k]'(by omega)) := by rw [cell_of_row wr _ k cur 5 (0, 0) hc]; simp [hcs, hlt]
      have h3 := frozen_of_row wr w.heap.size k cur 5 hc
      replace hz : Hid _ := hz
      have HH : Hid (wr.heap[w.heap.size]? = _) := hc
      clear hc hr
      go_wp2
      go_roundw
      case rel =>
        refine ⟨k + 1, cur.setIfInBounds k (.int .u8 z), by go_num, by omega, ?_, by simp [hcs], ?_, hbl.setCell (p := ⟨w.heap.size, k, none⟩) (Nat.le_refl _) _⟩
        · rw [setCell_eq_setRow wr w.heap.size k cur 5 (0, 0) _ HH.out, setRow_heap wr w.heap.size _ _ 5 _ HH.out]
        · intro j hj
          by_cases e : j = k
          · subst e; simp [hcs, hlt, hz.out]
          · rw [Array.getElem?_setIfInBounds_ne (Ne.symm e)]
            exact HC.out j (by omega)
      case measure => simp [intOf]; omega
    · go_wp2
      go_ret
      obtain rfl : k = zs.length := by omega
      refine ⟨rfl, ⟨by simp [bv], Or.inr ⟨w.heap.size, zs.length, cur, rfl, Nat.le_refl _, hc, Nat.le_refl _, by unfold maxLen; omega, by simp [hcs], ?_⟩⟩, hbl⟩
      apply List.ext_getElem?
      intro j
      by_cases hj : j < zs.length
      · rw [bv_get hj, List.getElem?_take, if_pos (by omega)]
        have := HC.out j hj
        simpa using this
      · rw [List.getElem?_eq_none (by simp; omega), List.getElem?_eq_none (by simp [bv]; omega)]

/-- cloneBytes. -/
theorem clone_any (B : Nat) (v : Value) (zs : List Int) (w : World) (hr : In B w v zs) (hB : B ≤ w.heap.size) (hn : zs.length ≤ 1000000) :
    Calls Try.prog 6 #[v] w fun e w' => ∃ v', e = .returned v' ∧ w'.ownsRow w.heap.size 5 1 v' zs.length (bv zs) ∧ Below w.heap.size w w' := by
  rcases hr with ⟨rfl, rfl⟩ | ⟨x, cap, rfl, h1, h2, h4⟩
  · refine (clone_nil w).mono ?_
    rintro e w' ⟨rfl, rfl⟩
    exact ⟨_, rfl, World.ownsRow_nil _ _ _ _, Below.refl _ _⟩
  · refine (clone_some x cap zs w (fun h => by obtain ⟨b, off, e, h3, h5⟩ := h4 h; exact ⟨b, off, e, by omega, h5⟩) hn).mono ?_
    rintro e w' ⟨rfl, h5, h6⟩
    exact ⟨_, rfl, h5, h6⟩
end Go.Proofs.Qxb6618067a
