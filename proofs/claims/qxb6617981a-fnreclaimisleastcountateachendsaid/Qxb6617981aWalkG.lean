/- Seat b6617981a: leastReaching. -/
import Derived.Test.Qxb6617981aWalkF
namespace Go.Proofs.Qxb6617981a
open Go.RowKit
set_option linter.unusedSimpArgs false
set_option linter.unusedVariables false

set_option maxRecDepth 100000 in
set_option maxHeartbeats 3200000 in
theorem leastReaching_any (st tg : Int) (a : Option Addr) (cap : Nat) (ls : List (List Int)) (hl : ∀ l ∈ ls, l.length = 5) (hg : Good ls) (u : Bool) (w : World) (hr : RowL w a ls) (hn : ls.length ≤ 1000000) (h1 : -9223372036854775807 ≤ st) (h2 : st < tg) (h3 : tg ≤ 9223372036854775807) :
    Calls Try.prog 16 #[.int .i64 st, .int .i64 tg, .slice a ls.length cap, .int .i64 (tot ls), .bool u] w fun e w' => e = .returned (.tuple #[.int .i64 (ev u (tg - st) ls 0).1, .bool (ev u (tg - st) ls 0).2]) ∧ Below w.heap.size w w' := by
  have HE : Hid (Least u (tg - st) ls (ev u (tg - st) ls 0).1 (ev u (tg - st) ls 0).2) := ev_least u (tg - st) ls hg.1 (by omega)
  obtain ⟨p, hp⟩ : ∃ p, p = (ev u (tg - st) ls 0).1 := ⟨_, rfl⟩
  obtain ⟨s, hs⟩ : ∃ s, s = (ev u (tg - st) ls 0).2 := ⟨_, rfl⟩
  rw [← hp, ← hs] at HE ⊢
  clear hp hs
  have ht := tot_nonneg ls hg.1
  have ht2 := hg.2
  obtain ⟨T, hT⟩ : ∃ T, T = tot ls := ⟨_, rfl⟩
  rw [← hT] at ht ht2 ⊢
  have HG : Hid (Good ls) := hg
  have HT : Hid (T = tot ls) := hT
  clear hg hT
  go_enter Try.func16, Try.ntmps16
  go_wp2_with fail
  refine (gap_any st tg _ h1 h2 h3).mono ?_
  rintro e wz ⟨rfl, rfl⟩
  obtain ⟨need, hneed⟩ : ∃ need, need = tg - st := ⟨_, rfl⟩
  rw [← hneed] at HE ⊢
  have hn1 : 0 < need := by omega
  have hn2 : need ≤ 18446744073709551615 := by omega
  replace hneed : Hid _ := hneed
  go_wp2_with fail
  refine (prefixFree_any a cap ls hl HG T ht ht2 u _ hr hn).mono ?_
  rintro e wa ⟨rfl, ba⟩
  by_cases k1 : cap64 (pf u ls T) < need
  · go_wp2
    go_ret2
    have := least_unique HG.out.1 HE.out (⟨fun _ => ⟨HT.out, by rw [← HT.out]; exact (cap64_lt hn2).1 k1⟩, fun h => by cases h⟩ : Least u need ls T true)
    obtain ⟨rfl, rfl⟩ := this
    exact ⟨rfl, ba⟩
  · have k2 : Hid (need ≤ pf u ls T) := (cap64_ge hn2).1 (by omega)
    have k3 : 0 < T := by
      rcases Int.lt_or_le 0 T with h | h
      · exact h
      · have e : T = 0 := by omega
        have := k2.out
        rw [e, pf_zero u ls HG.out.1] at this
        omega
    go_wp2
    go_loopw [13, 14] (fun x y wr => ∃ lo hi : Int, x = .int .i64 lo ∧ y = .int .i64 hi ∧ 0 ≤ lo ∧ lo < hi ∧ hi ≤ T ∧ Hid (pf u ls lo < need ∧ need ≤ pf u ls hi) ∧ Below wz.heap.size wz wr) (fun x y _ => (intOf y - intOf x).toNat)
    case atStart => exact ⟨0, T, rfl, rfl, by omega, k3, Int.le_refl _, ⟨by rw [pf_zero u ls HG.out.1]; exact hn1, k2⟩, ba⟩
    case round =>
      obtain ⟨lo, hi, rfl, rfl, g1, g2, g3, HI, hb⟩ := hrel
      have hrr : RowL wr a ls := rowL_below hr hl hb
      by_cases k4 : 1 < hi - lo
      · obtain ⟨mid, hmid⟩ : ∃ mid, mid = lo + (hi - lo) / 2 := ⟨_, rfl⟩
        have m1 : lo < mid := by omega
        have m2 : mid < hi := by omega
        have hq : Int.tdiv (hi - lo) 2 = (hi - lo) / 2 := Int.tdiv_eq_ediv_of_nonneg (by omega)
        go_wp2_with fail
        rw [← hmid]
        refine (prefixFree_any a cap ls hl HG mid (by omega) (by omega) u _ hrr hn).mono ?_
        rintro e wb ⟨rfl, bb⟩
        have bwb : Below wz.heap.size wz wb := hb.trans (bb.mono hb.size)
        clear bb hq hmid
        by_cases k5 : need ≤ cap64 (pf u ls mid)
        · have k6 : Hid (need ≤ pf u ls mid) := (cap64_ge hn2).1 k5
          go_wp2
          go_roundw
          case rel => exact ⟨lo, mid, rfl, rfl, g1, m1, by omega, ⟨HI.out.1, k6⟩, bwb⟩
          case measure => simp [intOf]; omega
        · have k6 : Hid (pf u ls mid < need) := (cap64_lt hn2).1 (by omega)
          go_wp2
          go_roundw
          case rel => exact ⟨mid, hi, rfl, rfl, by omega, m2, g3, ⟨k6, HI.out.2⟩, bwb⟩
          case measure => simp [intOf]; omega
      · go_wp2
        go_ret2
        have := least_unique HG.out.1 HE.out (⟨fun h => (by cases h), fun _ => ⟨by omega, by rw [← HT.out]; exact g3, HI.out.2, by rw [show hi - 1 = lo by omega]; exact HI.out.1⟩⟩ : Least u need ls hi false)
        obtain ⟨rfl, rfl⟩ := this
        exact ⟨rfl, hb⟩
end Go.Proofs.Qxb6617981a
