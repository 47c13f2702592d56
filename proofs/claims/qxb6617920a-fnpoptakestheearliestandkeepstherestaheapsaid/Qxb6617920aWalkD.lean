import Derived.Test.Qxb6617920aWalkC
namespace Go.Proofs.Qxb6617920a
open Go.RowKit
set_option linter.unusedSimpArgs false
set_option linter.unusedVariables false
attribute [local go_sem ↓] exec_ld34 exec_st40

theorem getD_take15 {ms : List (List Int)} (hm : ∀ m ∈ ms, m.length = 15) {k j : Nat} (hj : j < (ms.take k).length) : ((ms.take k).getD j []).length = 15 :=
  getD_len15 (fun m h => hm m (List.mem_of_mem_take h)) hj
theorem take_succ_other {ms : List (List Int)} {k j : Nat} (hj : j < (ms.take (k + 1)).length) (he : j ≠ k) : j < (ms.take k).length ∧ (ms.take (k + 1)).getD j [] = (ms.take k).getD j [] := by
  simp at hj
  refine ⟨by simp; omega, ?_⟩
  simp [List.getD_eq_getElem?_getD, List.getElem?_take, show j < k by omega, show j < k + 1 by omega]
theorem take_succ_at {ms : List (List Int)} {k : Nat} (hk : k < ms.length) : (ms.take (k + 1)).getD k [] = ms.getD k [] := by
  simp [List.getD_eq_getElem?_getD, List.getElem?_take]

set_option maxHeartbeats 800000 in
theorem toSimQueue_any (a : Option Addr) (cap : Nat) (ms : List (List Int)) (hm : ∀ m ∈ ms, m.length = 15) (w : World) (hr : RowAt w a ms) (hn : ms.length ≤ 1000000) :
    Calls Try.prog 10 #[.slice a ms.length cap] w fun e w' => e = .returned (.slice (some ⟨w.heap.size, 0, none⟩) ms.length ms.length) ∧ Rows15 w' w.heap.size 0 ms ∧ w'.there w.heap.size 0 (ms.length * 15) ∧ Below w.heap.size w w' ∧ w.heap.size < w'.heap.size := by
  have hmk := run_make40 ms.length hn
  go_enter Try.func10, Try.ntmps10
  go_wp2
  clear hmk
  go_loopw [4] (fun i wr => ∃ k : Nat, i = .int .i64 k ∧ k ≤ ms.length ∧ Rows15 wr w.heap.size 0 (ms.take k) ∧ wr.there w.heap.size 0 (ms.length * 15) ∧ Below w.heap.size w wr ∧ w.heap.size < wr.heap.size) (fun i _ => ms.length - (intOf i).toNat)
  case atStart => exact ⟨0, rfl, Nat.zero_le _, fun i hi => by simp at hi, there_block (heap_alloc_new _ _) (size_made15 _), (Below.refl _ _).alloc (Nat.le_refl _) _, by simp⟩
  case round =>
    obtain ⟨k, rfl, hk, hrow, hth, hb, hsz⟩ := hrel
    by_cases hlt : k < ms.length
    · rcases hr with rfl | ⟨b, off, rfl, hr⟩
      · simp at hlt
      have hbl := rows_lt hr hm (by omega)
      have hxl := getD_len15 hm hlt
      have h1 := run_ld34 (rangeAt_below hb (hr k hlt) hbl) hxl
      obtain ⟨x, hx⟩ : ∃ x, x = ms.getD k [] := ⟨_, rfl⟩
      rw [← hx] at h1 hxl
      have HX : Hid (x = ms.getD k []) := hx
      have hk2 : (k : Int) < (ms.length : Int) := by omega
      have HT : Hid (∀ w1, Below wr.heap.size wr w1 → Sem.run Try.prog (stS 40 (.pointer (some ⟨w.heap.size, k * 15, none⟩)) (.agg (mc x).toArray)) w1 = .ok .skip (w1.setCells w.heap.size (k * 15) (mc x))) :=
        fun w1 h => run_st40 (there_sub (there_below h hth hsz) (by omega) (by omega)) hxl
      clear hx hr
      go_wp2_with (go_at_call 22; refine (toSim_any x hxl _).mono ?_; rintro e w1 ⟨rfl, hb1⟩; have hst := HT.out w1 hb1)
      have hth1 := there_below hb1 hth hsz
      have hrow1 := rows_below hb1 hrow hsz
      go_roundw
      case rel =>
        refine ⟨k + 1, by go_num, by omega, ?_, World.there_setCells hth1 _ _ _, below_setCells (Nat.le_refl _) _ _ _ (hb.trans (hb1.mono hb.size)), by rw [size_setCells]; have := hb1.size; omega⟩
        have := rows_set (i := k) (ms' := ms.take (k + 1)) hrow1 hth1 hlt hxl (fun j hj => getD_take15 hm hj) (fun j hj he => take_succ_other hj he) (fun _ => by rw [HX.out]; exact take_succ_at hlt)
        simpa using this
      case measure => simp [intOf]; omega
    · go_wp2
      go_ret
      refine ⟨rfl, ?_, hth, hb, hsz⟩
      rw [List.take_of_length_le (by omega)] at hrow
      exact hrow
end Go.Proofs.Qxb6617920a
