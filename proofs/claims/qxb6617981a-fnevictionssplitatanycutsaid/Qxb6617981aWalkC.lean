/- Seat b6617981a: toPods. -/
import Derived.Test.Qxb6617981aWalkB
namespace Go.Proofs.Qxb6617981a
open Go.RowKit
set_option linter.unusedSimpArgs false
set_option linter.unusedVariables false

section
attribute [local go_sem ↓] exec_st50
set_option maxHeartbeats 1600000 in
theorem toPods_any (a : Option Addr) (cap : Nat) (ls : List (List Int)) (hl : ∀ l ∈ ls, l.length = 5) (w : World) (hr : RowL w a ls) (hn : ls.length ≤ 1000000) :
    Calls Try.prog 10 #[.slice a ls.length cap] w fun e w' => e = .returned (.slice (some ⟨w.heap.size, 0, none⟩) ls.length ls.length) ∧ RowsP w' w.heap.size 0 ls ∧ Below w.heap.size w w' ∧ w.heap.size < w'.heap.size := by
  have hmk := run_make50 ls.length hn
  go_enter Try.func10, Try.ntmps10
  go_wp2
  clear hmk
  go_loopw [4] (fun i wr => ∃ k : Nat, i = .int .i64 k ∧ k ≤ ls.length ∧ RowsP wr w.heap.size 0 (ls.take k) ∧ wr.there w.heap.size 0 (ls.length * 10) ∧ Below w.heap.size w wr ∧ w.heap.size < wr.heap.size) (fun i _ => ls.length - (intOf i).toNat)
  case atStart => exact ⟨0, rfl, Nat.zero_le _, fun i hi => by simp at hi, there_block (heap_alloc_new _ _) (size_made10 _), (Below.refl _ _).alloc (Nat.le_refl _) _, by simp⟩
  case round =>
    obtain ⟨k, rfl, hk, hrow, hth, hb, hsz⟩ := hrel
    by_cases hlt : k < ls.length
    · have hk2 : (k : Int) < (ls.length : Int) := by omega
      rcases hr with rfl | ⟨b, off, rfl, hr⟩
      · simp at hlt
      have hbl := rowsL_lt hr hl (by omega)
      have hx5 := gl_len5 hl hlt
      obtain ⟨c0, c1, c2, c3, c4⟩ := lc_cells (rangeAt_below hb (hr k hlt) hbl) hx5
      have hbl2 : b < wr.heap.size := by omega
      have hst : ∀ o, Sem.run Try.prog (stS 50 (.pointer (some ⟨w.heap.size, k * 10, none⟩)) (.agg (pc (gl ls k)).toArray)) (wr.alloc o) = .ok .skip ((wr.alloc o).setCells w.heap.size (k * 10) (pc (gl ls k))) := fun o => run_st50 (World.there_alloc (there_sub hth (by omega) (by omega)) o)
      obtain ⟨x, hx⟩ : ∃ x, x = gl ls k := ⟨_, rfl⟩
      rw [← hx] at c0 c1 c2 c3 c4 hst
      have HX : Hid (x = gl ls k) := hx
      simp only [pc] at hst
      obtain ⟨p0, hp0⟩ : ∃ p0, p0 = x.getD 0 0 := ⟨_, rfl⟩
      obtain ⟨p3, hp3⟩ : ∃ p3, p3 = x.getD 3 0 := ⟨_, rfl⟩
      rw [← hp0, ← hp3] at hst
      rw [← hp0] at c0
      rw [← hp3] at c3
      have HP0 : Hid (p0 = x.getD 0 0) := hp0
      have HP3 : Hid (p3 = x.getD 3 0) := hp3
      have HROW : Hid (RowsP wr w.heap.size 0 (ls.take k)) := hrow
      have HTH : Hid (wr.there w.heap.size 0 (ls.length * 10)) := hth
      clear hx hr hrow hth hp0 hp3
      go_wp2
      go_roundw
      case rel =>
        rw [HP0.out, HP3.out]
        refine ⟨k + 1, by go_num, by omega, ?_, World.there_setCells (World.there_alloc HTH.out _) _ _ _, below_setCells (Nat.le_refl _) _ _ _ (hb.alloc hb.size _), by rw [size_setCells]; simp; omega⟩
        rw [HX.out]
        exact rowsP_set (n := ls.length) (fun i hi => World.rangeAt_alloc (HROW.out i hi) _) (World.there_alloc HTH.out _) hlt hlt
      case measure => simp [intOf]; omega
    · go_wp2
      go_ret
      refine ⟨rfl, ?_, hb, hsz⟩
      rw [List.take_of_length_le (by omega)] at hrow
      exact hrow
end
end Go.Proofs.Qxb6617981a
