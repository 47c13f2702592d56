import Derived.Test.Qxb6617920aWalkD
import Derived.Test.Qxb6617920aWalkG
namespace Go.Proofs.Qxb6617920a
open Go.RowKit
set_option linter.unusedSimpArgs false
set_option linter.unusedVariables false
attribute [local go_sem ↓] exec_ld40 exec_st34

set_option maxHeartbeats 800000 in
theorem queueOf_any (g : Nat) (a : Option Addr) (cap : Nat) (ms : List (List Int)) (hm : ∀ m ∈ ms, m.length = 15) (w : World) (hq : w.cell? ⟨g, 2, none⟩ = some (.slice a ms.length cap)) (hr : RowAt w a ms) (hn : ms.length ≤ 1000000) :
    Calls Try.prog 14 #[.pointer (some ⟨g, 0, none⟩)] w fun e w' => e = .returned (.slice (some ⟨w.heap.size, 0, none⟩) ms.length ms.length) ∧ Rows15 w' w.heap.size 0 ms ∧ Below w.heap.size w w' ∧ w.heap.size < w'.heap.size := by
  have hmk := run_make34 ms.length hn
  go_enter Try.func14, Try.ntmps14
  go_wp2_with (go_at_call 26; refine (nwQueue_any g _ _ hq).mono ?_; rintro e w' ⟨rfl, rfl⟩)
  clear hmk
  go_loopw [5] (fun i wr => ∃ k : Nat, i = .int .i64 k ∧ k ≤ ms.length ∧ Rows15 wr w'.heap.size 0 (ms.take k) ∧ wr.there w'.heap.size 0 (ms.length * 15) ∧ Below w'.heap.size w' wr ∧ w'.heap.size < wr.heap.size) (fun i _ => ms.length - (intOf i).toNat)
  case atStart => exact ⟨0, rfl, Nat.zero_le _, fun i hi => by simp at hi, there_block (heap_alloc_new _ _) (size_made15 _), (Below.refl _ _).alloc (Nat.le_refl _) _, by simp⟩
  case round =>
    obtain ⟨k, rfl, hk, hrow, hth, hb, hsz⟩ := hrel
    by_cases hlt : k < ms.length
    · rcases hr with rfl | ⟨b, off, rfl, hr⟩
      · simp at hlt
      have hbl := rows_lt hr hm (by omega)
      have hxl := getD_len15 hm hlt
      have h1 := run_ld40 (rangeAt_below hb (hr k hlt) hbl) hxl
      obtain ⟨x, hx⟩ : ∃ x, x = ms.getD k [] := ⟨_, rfl⟩
      rw [← hx] at h1 hxl
      have HX : Hid (x = ms.getD k []) := hx
      have hk2 : (k : Int) < (ms.length : Int) := by omega
      have HT : Hid (∀ w1, Below wr.heap.size wr w1 → Sem.run Try.prog (stS 34 (.pointer (some ⟨w'.heap.size, k * 15, none⟩)) (.agg (mc x).toArray)) w1 = .ok .skip (w1.setCells w'.heap.size (k * 15) (mc x))) :=
        fun w1 h => run_st34 (there_sub (there_below h hth hsz) (by omega) (by omega)) hxl
      clear hx hr hq
      go_wp2_with (go_at_call 12; refine (fromSim_any x hxl _).mono ?_; rintro e w1 ⟨rfl, hb1⟩; have hst := HT.out w1 hb1)
      have hth1 := there_below hb1 hth hsz
      have hrow1 := rows_below hb1 hrow hsz
      go_roundw
      case rel =>
        refine ⟨k + 1, by go_num, by omega, ?_, World.there_setCells hth1 _ _ _, below_setCells (Nat.le_refl _) _ _ _ (hb.trans (hb1.mono hb.size)), by rw [size_setCells]; have := hb1.size; omega⟩
        have := rows_set (i := k) (ms' := ms.take (k + 1)) hrow1 hth1 hlt hxl (fun j hj => getD_take15 hm hj) (fun j hj he => take_succ_other hj he) (fun _ => by rw [HX.out]; exact take_succ_at hlt)
        simpa using this
      case measure => simp [intOf]; omega
    · go_wp2
      go_ret
      refine ⟨rfl, ?_, hb, hsz⟩
      rw [List.take_of_length_le (by omega)] at hrow
      exact hrow
end Go.Proofs.Qxb6617920a
