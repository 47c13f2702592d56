/- Seat b6617981a: the law on the least count: the walk. -/
import Derived.Test.Qxb6617981aWalkF
namespace Go.Proofs.Qxb6617981a
open Go.RowKit
set_option linter.unusedSimpArgs false
set_option linter.unusedVariables false

set_option maxRecDepth 100000 in
set_option maxHeartbeats 3200000 in
theorem law3_any (av : Int) (pr : Bool) (tg : Int) (a : Option Addr) (cap : Nat) (ls : List (List Int)) (hl : ∀ l ∈ ls, l.length = 5) (hrg : ∀ l ∈ ls, Rg l) (u : Bool) (w : World) (hr : RowL w a ls) (hz : ls.length ≤ 9223372036854775807) (tg1 : tg ≤ 9223372036854775807) :
    Calls Try.prog 3 #[.int .i64 av, .bool pr, .int .i64 tg, .slice a ls.length cap, .bool u] w fun e w' => e = .returned (.bool true) ∧ Below w.heap.size w w' := by
  go_enter Try.func3, Try.ntmps3
  go_wp2_with fail
  refine (zzBytes7_any av pr tg a ls.length cap u _ hz).mono ?_
  rintro e w ⟨t, rfl, rfl⟩
  rcases t with _ | _
  · go_wp2
    go_ret
    exact ⟨rfl, Below.refl _ _⟩
  by_cases k1 : 4096 < ls.length
  · go_wp2
    go_ret
    exact ⟨rfl, Below.refl _ _⟩
  go_wp2_with fail
  refine (linesTotal_any a cap ls hl hrg _ hr (by omega)).mono ?_
  rintro e wa ⟨⟨T, b, rfl, hG⟩, ba⟩
  replace hG : Hid _ := hG
  rcases b with _ | _
  · go_wp2
    go_ret
    exact ⟨rfl, ba⟩
  have hG2 := hG.out rfl
  have HG : Hid (Good ls) := hG2.2
  have hT : Hid (T = tot ls) := hG2.1
  clear hG hG2 hrg
  have hra : RowL wa a ls := rowL_below hr hl ba
  rcases pr with _ | _
  · go_wp2_with fail
    refine (toPods_any a cap ls hl _ hra (by omega)).mono ?_
    rintro e wb ⟨rfl, HP, bb, sb⟩
    have HR : Hid (RowP wb (some ⟨wa.heap.size, 0, none⟩) ls) := Or.inr ⟨_, 0, rfl, HP⟩
    have bwb : Below w.heap.size w wb := ba.trans (bb.mono ba.size)
    clear HP bb
    go_wp2_with fail
    refine (zzev_any av tg false u _ ls.length ls HG (fun h => by cases h) _ HR (by omega)).mono ?_
    rintro e wc ⟨rfl, bc⟩
    rw [evp_off]
    go_wp2
    go_ret
    exact ⟨rfl, bwb.trans (bc.mono bwb.size)⟩
  by_cases k2 : tg ≤ av
  · go_wp2
    go_ret
    exact ⟨rfl, ba⟩
  by_cases k3 : av < -9223372036854775807
  · go_wp2
    go_ret
    exact ⟨rfl, ba⟩
  go_wp2_with fail
  refine (toPods_any a cap ls hl _ hra (by omega)).mono ?_
  rintro e wb ⟨rfl, HP, bb, sb⟩
  have HR : Hid (RowP wb (some ⟨wa.heap.size, 0, none⟩) ls) := Or.inr ⟨_, 0, rfl, HP⟩
  have bwb : Below w.heap.size w wb := ba.trans (bb.mono ba.size)
  clear HP bb sb hra
  go_wp2_with fail
  refine (zzev_any av tg true u _ ls.length ls HG (fun _ => ⟨by omega, by omega, tg1⟩) _ HR (by omega)).mono ?_
  rintro e wc ⟨rfl, bc⟩
  rw [evp_on]
  have HL := ev_least u (tg - av) ls HG.out.1 (by omega)
  obtain ⟨p, hp⟩ : ∃ p, p = (ev u (tg - av) ls 0).1 := ⟨_, rfl⟩
  obtain ⟨s, hs⟩ : ∃ s, s = (ev u (tg - av) ls 0).2 := ⟨_, rfl⟩
  rw [← hp, ← hs] at HL ⊢
  have bwc : Below w.heap.size w wc := bwb.trans (bc.mono bwb.size)
  have ht := tot_nonneg ls HG.out.1
  have ht2 := HG.out.2
  clear hp hs bc HR
  go_wp2_with fail
  refine (gap_any av tg _ (by omega) (by omega) tg1).mono ?_
  rintro e wd ⟨rfl, rfl⟩
  have hrc : RowL wd a ls := rowL_below hr hl bwc
  obtain ⟨need, hneed⟩ : ∃ need, need = tg - av := ⟨_, rfl⟩
  rw [← hneed] at HL ⊢
  have hn1 : 0 < need := by omega
  have hn2 : need ≤ 18446744073709551615 := by omega
  replace hneed : Hid _ := hneed
  rcases s with _ | _
  · obtain ⟨f1, f2, f3, f4⟩ := HL.full rfl
    have q1 : need ≤ cap64 (pf u ls p) := (cap64_ge hn2).2 f3
    have q2 : cap64 (pf u ls (p - 1)) < need := (cap64_lt hn2).2 f4
    have f2' : p ≤ T := by rw [hT.out]; exact f2
    clear HL f3 f4
    go_wp2_with fail
    refine (prefixFree_any a cap ls hl HG p (by omega) (by omega) u _ hrc (by omega)).mono ?_
    rintro e we ⟨rfl, be⟩
    have bwe : Below w.heap.size w we := bwc.trans (be.mono bwc.size)
    have hre : RowL we a ls := rowL_below hrc hl be
    clear be
    go_wp2_with fail
    refine (prefixFree_any a cap ls hl HG (p - 1) (by omega) (by omega) u _ hre (by omega)).mono ?_
    rintro e wf ⟨rfl, bf⟩
    go_wp2
    go_ret
    exact ⟨rfl, bwe.trans (bf.mono bwe.size)⟩
  · obtain ⟨f1, f2⟩ := HL.short rfl
    have q2 : cap64 (pf u ls (tot ls)) < need := (cap64_lt hn2).2 f2
    obtain rfl : p = T := by rw [hT.out]; exact f1
    clear HL f1 f2
    go_wp2_with fail
    rw [hT.out]
    refine (prefixFree_any a cap ls hl HG (tot ls) ht ht2 u _ hrc (by omega)).mono ?_
    rintro e we ⟨rfl, be⟩
    go_wp2
    go_ret
    exact ⟨rfl, bwc.trans (be.mono bwc.size)⟩
end Go.Proofs.Qxb6617981a
