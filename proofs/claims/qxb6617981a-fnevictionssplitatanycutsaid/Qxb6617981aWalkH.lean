/- Seat b6617981a: linesTotal over an order in the domain; slices cut. -/
import Derived.Test.Qxb6617981aWalkF
namespace Go.Proofs.Qxb6617981a
open Go.RowKit
set_option linter.unusedSimpArgs false
set_option linter.unusedVariables false

theorem tot_take_le {ls : List (List Int)} (h : ∀ l ∈ ls, Ok l) (k : Nat) : tot (ls.take k) ≤ tot ls := by
  have e : tot ls = tot (ls.take k) + tot (ls.drop k) := by rw [← tot_append, List.take_append_drop]
  have := tot_nonneg (ls.drop k) (fun l hl => h l (List.mem_of_mem_drop hl))
  omega
theorem good_take {ls : List (List Int)} (h : Good ls) (k : Nat) : Good (ls.take k) :=
  ⟨fun l hl => h.1 l (List.mem_of_mem_take hl), Int.le_trans (tot_take_le h.1 k) h.2⟩
theorem good_drop {ls : List (List Int)} (h : Good ls) (k : Nat) : Good (ls.drop k) := by
  refine ⟨fun l hl => h.1 l (List.mem_of_mem_drop hl), ?_⟩
  have e : tot ls = tot (ls.take k) + tot (ls.drop k) := by rw [← tot_append, List.take_append_drop]
  have := tot_nonneg (ls.take k) (fun l hl => h.1 l (List.mem_of_mem_take hl))
  have := h.2
  omega
theorem gl_take {ls : List (List Int)} {k i : Nat} (h : i < k) : gl (ls.take k) i = gl ls i := by simp [gl, List.getD_eq_getElem?_getD, h]
theorem gl_drop (ls : List (List Int)) (k i : Nat) : gl (ls.drop k) i = gl ls (k + i) := by simp [gl, List.getD_eq_getElem?_getD]
theorem rowsP_take {w : World} {b off : Nat} {ls : List (List Int)} (h : RowsP w b off ls) (k : Nat) : RowsP w b off (ls.take k) := fun i hi => by
  simp at hi
  rw [gl_take (by omega)]
  exact h i (by omega)
theorem rowsP_drop {w : World} {b off : Nat} {ls : List (List Int)} (h : RowsP w b off ls) (k : Nat) : RowsP w b (off + k * 10) (ls.drop k) := fun i hi => by
  simp at hi
  rw [gl_drop]
  have := h (k + i) (by omega)
  rwa [show off + k * 10 + i * 10 = off + (k + i) * 10 by omega]
theorem rowL_take {w : World} {a : Option Addr} {ls : List (List Int)} (h : RowL w a ls) (k : Nat) : RowL w a (ls.take k) := by
  rcases h with rfl | ⟨b, off, rfl, h⟩
  · left; simp
  · refine Or.inr ⟨b, off, rfl, fun i hi => ?_⟩
    simp at hi
    rw [gl_take (by omega)]
    exact h i (by omega)

section
attribute [local go_sem ↓] exec_ld43 exec_st43
set_option maxHeartbeats 1600000 in
theorem linesTotal_good (a : Option Addr) (cap : Nat) (ls : List (List Int)) (hl : ∀ l ∈ ls, l.length = 5) (hg : Good ls) (w : World) (hr : RowL w a ls) (hn : ls.length ≤ 1000000) :
    Calls Try.prog 8 #[.slice a ls.length cap] w fun e w' => e = .returned (.tuple #[.int .i64 (tot ls), .bool true]) ∧ Below w.heap.size w w' := by
  have HG : Hid (Good ls) := hg
  clear hg
  go_enter Try.func8, Try.ntmps8
  go_wp2
  go_loopw [4, 5] (fun t i wr => ∃ (k : Nat) (s : Int), t = .int .i64 s ∧ i = .int .i64 k ∧ k ≤ ls.length ∧ Hid (s = tot (ls.take k)) ∧ Below w.heap.size w wr) (fun _ i _ => ls.length - (intOf i).toNat)
  case atStart => exact ⟨0, 0, rfl, rfl, Nat.zero_le _, rfl, Below.refl _ _⟩
  case round =>
    obtain ⟨k, s, rfl, rfl, hk, HE, hb⟩ := hrel
    by_cases hlt : k < ls.length
    · have hk2 : (k : Int) < (ls.length : Int) := by omega
      rcases hr with rfl | ⟨b, off, rfl, hr⟩
      · simp at hlt
      have hx5 := gl_len5 hl hlt
      have hrk := rangeAt_below hb (hr k hlt) (rowsL_lt hr hl (by omega))
      have hld := run_ld43 hrk hx5
      obtain ⟨k1, k2, k3, k4⟩ : Ok (gl ls k) := HG.out.1 _ (gl_mem hlt)
      have k5 : s + ct (gl ls k) ≤ 9223372036854775807 := by
        have h1 := tot_take_le HG.out.1 (k + 1)
        rw [tot_take hlt] at h1
        have h2 := HG.out.2
        rw [HE.out]; omega
      have k6 : 0 ≤ s := by rw [HE.out]; exact tot_nonneg _ (fun l hl => HG.out.1 l (List.mem_of_mem_take hl))
      obtain ⟨x, hx⟩ : ∃ x, x = gl ls k := ⟨_, rfl⟩
      rw [← hx] at hld hx5 k1 k2 k3 k4 k5
      have HX : Hid (x = gl ls k) := hx
      have hst := fun old ho => run_st43_new (w := wr) (old := old) (l := x) ho hx5
      have m1 : (lc x)[1]? = some (.int .i64 (us x)) := lc_one hx5
      have m2 : (lc x)[2]? = some (.int .i64 (un x)) := lc_two hx5
      have m4 : (lc x)[4]? = some (.int .i64 (ct x)) := lc_four hx5
      obtain ⟨p, hp⟩ : ∃ p, p = us x := ⟨_, rfl⟩
      obtain ⟨q, hq⟩ : ∃ q, q = un x := ⟨_, rfl⟩
      obtain ⟨c, hc⟩ : ∃ c, c = ct x := ⟨_, rfl⟩
      rw [← hp] at m1 k1 k4
      rw [← hq] at m2 k2 k4
      rw [← hc] at m4 k3 k5
      have HC : Hid (c = ct x) := hc
      clear hx hrk hr hp hq hc
      have hbx := hb.alloc hb.size (.cells (lc x).toArray 43)
      have g1 : p ≤ 9223372036854775807 - q := by omega
      have g2 : s ≤ 9223372036854775807 - c := by omega
      go_wp2
      go_roundw
      case rel => exact ⟨k + 1, s + c, rfl, by go_num, by omega, by show _ = _; rw [tot_take hlt, ← HX.out, ← HC.out, HE.out], hbx⟩
      case measure => simp [intOf]; omega
    · go_wp2
      go_ret2
      obtain rfl : k = ls.length := by omega
      have h1 := HE.out
      rw [List.take_of_length_le (Nat.le_refl _)] at h1
      rw [h1]
      exact ⟨rfl, hb⟩
end
end Go.Proofs.Qxb6617981a
