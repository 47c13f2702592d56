import Derived.Test.Qxb6617920aWalkA
namespace Go.Proofs.Qxb6617920a
open Go.RowKit
set_option linter.unusedSimpArgs false
set_option linter.unusedVariables false
attribute [local go_sem ↓] exec_ld34

theorem wrapI {x : Int} (h0 : -9223372036854775808 ≤ x) (h1 : x ≤ 9223372036854775807) : IntKind.i64.wrap x = x := by
  rw [IntKind.wrap_i64]; omega

theorem heap_no {ms : List (List Int)} {k : Nat} (h1 : 1 ≤ k) (hk : k < ms.length) (h : bef (ms.getD k []) (ms.getD ((k - 1) / 2) []) = true) : heapB ms = false := by
  rcases hb : heapB ms with _ | _
  · rfl
  · have := heapUpto_le ms (k + 1) ms.length (by omega) hb
    rw [heapUpto_succ, h] at this
    have hk0 : (k == 0) = false := by simp; omega
    simp [hk0] at this

set_option maxHeartbeats 800000 in
theorem isHeap_any (a : Option Addr) (cap : Nat) (ms : List (List Int)) (hm : ∀ m ∈ ms, m.length = 15) (w : World) (hr : RowAt w a ms) (hn : ms.length ≤ 1000000) :
    Calls Try.prog 7 #[.slice a ms.length cap] w fun e w' => e = .returned (.bool (heapB ms)) ∧ Below w.heap.size w w' := by
  go_enter Try.func7, Try.ntmps7
  go_wp2
  go_loopw [3] (fun i wr => ∃ k : Nat, i = .int .i64 k ∧ 1 ≤ k ∧ (k ≤ ms.length ∨ k = 1) ∧ Hid (heapUpto ms k = true) ∧ Below w.heap.size w wr) (fun i _ => ms.length - (intOf i).toNat)
  case atStart => exact ⟨1, rfl, Nat.le_refl _, Or.inr rfl, by show _ = _; simp [heapUpto], Below.refl _ _⟩
  case round =>
    obtain ⟨k, rfl, hk1, hk, HH, hb⟩ := hrel
    by_cases hlt : k < ms.length
    · rcases hr with rfl | ⟨b, off, rfl, hr⟩
      · simp at hlt
      have hbl := rows_lt hr hm (by omega)
      have hbl2 : b < wr.heap.size := by have := hb.size; omega
      obtain ⟨p, hp⟩ : ∃ p, p = (k - 1) / 2 := ⟨_, rfl⟩
      have hpn : p < ms.length := by omega
      have h1 := rangeAt_below hb (hr k hlt) hbl
      have h2 := rangeAt_below hb (hr p hpn) hbl
      have hxl := getD_len15 hm hlt
      have hyl := getD_len15 hm hpn
      obtain ⟨x, hx⟩ : ∃ x, x = ms.getD k [] := ⟨_, rfl⟩
      obtain ⟨y, hy⟩ : ∃ y, y = ms.getD p [] := ⟨_, rfl⟩
      rw [← hx] at h1 hxl
      rw [← hy] at h2 hyl
      have hk0 : (0 : Int) ≤ (k : Int) := Int.natCast_nonneg _
      have hk2 : (k : Int) < (ms.length : Int) := by omega
      have hk3 : (1 : Int) ≤ (k : Int) := by omega
      have hp0 : (0 : Int) ≤ (p : Int) := Int.natCast_nonneg _
      have hp2 : (p : Int) < (ms.length : Int) := by omega
      have hw1 : IntKind.i64.wrap ((k : Int) - 1) = (k : Int) - 1 := wrapI (by omega) (by omega)
      have hw2 : IntKind.i64.wrap (((k : Int) - 1).tdiv 2) = (p : Int) := by
        rw [Int.tdiv_eq_ediv_of_nonneg (by omega)]
        rw [wrapI (by omega) (by omega)]; omega
      have HX : Hid (x = ms.getD k []) := hx
      have HY : Hid (y = ms.getD ((k - 1) / 2) []) := by rw [← hp]; exact hy
      clear hx hy hr hp
      go_wp2_with fail
      go_region_held3 (fun w' => Sem.run Try.prog (ldS 34 (.pointer (some ⟨b, off + k * 15, none⟩))) w' = .ok (.value (.agg (mc x).toArray)) w' ∧ Sem.run Try.prog (ldS 34 (.pointer (some ⟨b, off + p * 15, none⟩))) w' = .ok (.value (.agg (mc y).toArray)) w')
        (first | exact ⟨run_ld34 ((World.rangeAt_drew _ _ _ _).2 h1) hxl, run_ld34 ((World.rangeAt_drew _ _ _ _).2 h2) hyl⟩ | exact ⟨run_ld34 (rangeAt_below hbc ((World.rangeAt_drew _ _ _ _).2 h1) hbl2) hxl, run_ld34 (rangeAt_below hbc ((World.rangeAt_drew _ _ _ _).2 h2) hbl2) hyl⟩)
        ((go_at_call 23; refine (arrives_any x y hxl hyl _).mono ?_; rintro e w1 ⟨rfl, hbc⟩))
      have hb1 : Below w.heap.size w w1 := (hb.drew).trans (hbc.mono (by simpa using hb.size))
      clear hw1 hw2
      rcases hbf : bef x y with _ | _
      · have hkk : (k : Int) + 1 ≤ 1000000 := by omega
        go_wp2
        go_roundw
        case rel => 
          refine ⟨k + 1, by go_num, by omega, Or.inl (by omega), ?_, hb1⟩
          show _ = _
          rw [heapUpto_succ, HH.out, ← HX.out, ← HY.out, hbf]; simp
        case measure => simp [intOf]; omega
      · go_wp2
        go_ret
        refine ⟨?_, hb1⟩
        rw [heap_no hk1 hlt (by rw [← HX.out, ← HY.out]; exact hbf)]; rfl
    · go_wp2
      go_ret
      refine ⟨?_, hb⟩
      have : heapB ms = true := by
        rcases hk with hk | hk
        · have : k = ms.length := by omega
          subst this; exact HH.out
        · unfold heapB; exact heapUpto_le ms _ k (by omega) HH.out
      rw [this]; rfl
end Go.Proofs.Qxb6617920a
