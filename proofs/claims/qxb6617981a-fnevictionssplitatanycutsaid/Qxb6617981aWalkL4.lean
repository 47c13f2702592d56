/- Seat b6617981a: the law on any cut: the walk. -/
import Derived.Test.Qxb6617981aWalkH
namespace Go.Proofs.Qxb6617981a
open Go.RowKit
set_option linter.unusedSimpArgs false
set_option linter.unusedVariables false

theorem rest_eq (av f : Int) (h1 : -9223372036854775807 ≤ av) (h2 : 0 ≤ f) (h3 : av + f ≤ 9223372036854775807) : wrap64 (IntKind.u64.wrap (IntKind.u64.wrap av + f)) = av + f := by
  rw [wrap64, IntKind.wrap_u64, IntKind.wrap_u64]
  omega
theorem least_le {u : Bool} {n : Int} {ls : List (List Int)} {p : Int} {s : Bool} (h : ∀ l ∈ ls, Ok l) (a : Least u n ls p s) : p ≤ tot ls := by
  rcases s with _ | _
  · exact (a.full rfl).2.1
  · exact Int.le_of_eq (a.short rfl).1

set_option maxRecDepth 100000 in
set_option maxHeartbeats 3200000 in
theorem law4_any (av tg : Int) (a : Option Addr) (cap : Nat) (ls : List (List Int)) (hl : ∀ l ∈ ls, l.length = 5) (hrg : ∀ l ∈ ls, Rg l) (cut : Int) (u : Bool) (w : World) (hr : RowL w a ls) (hz : ls.length ≤ 9223372036854775807) (tg1 : tg ≤ 9223372036854775807) (hlc : ls.length ≤ cap) (hcm : cap ≤ 9223372036854775807) :
    Calls Try.prog 4 #[.int .i64 av, .int .i64 tg, .slice a ls.length cap, .int .i64 cut, .bool u] w fun e w' => e = .returned (.bool true) ∧ Below w.heap.size w w' := by
  go_enter Try.func4, Try.ntmps4
  go_wp2_with fail
  refine (zzBytes13_any av tg a ls.length cap cut u _ hz).mono ?_
  rintro e w ⟨t, rfl, rfl⟩
  rcases t with _ | _
  · go_wp2
    go_ret
    exact ⟨rfl, Below.refl _ _⟩
  by_cases k1 : 4096 < ls.length
  · go_wp2
    go_ret
    exact ⟨rfl, Below.refl _ _⟩
  by_cases k2 : cut < 0
  · go_wp2
    go_ret
    exact ⟨rfl, Below.refl _ _⟩
  by_cases k3 : (ls.length : Int) < cut
  · go_wp2
    go_ret
    exact ⟨rfl, Below.refl _ _⟩
  obtain ⟨k, rfl⟩ : ∃ k : Nat, cut = (k : Int) := ⟨cut.toNat, by omega⟩
  have hk : k ≤ ls.length := by omega
  clear k2
  go_wp2_with fail
  refine (linesTotal_any a cap ls hl hrg _ hr (by omega)).mono ?_
  rintro e wa ⟨⟨T, b, rfl, hG⟩, ba⟩
  replace hG : Hid _ := hG
  rcases b with _ | _
  · go_wp2
    go_ret
    exact ⟨rfl, ba⟩
  have hG2 := hG.out rfl
  have HG : Hid (Good ls) := hG2.2
  have hT : Hid (T = tot ls) := hG2.1
  clear hG hG2 hrg
  have hra : RowL wa a ls := rowL_below hr hl ba
  by_cases k4 : tg ≤ av
  · go_wp2
    go_ret
    exact ⟨rfl, ba⟩
  by_cases k5 : av < -9223372036854775807
  · go_wp2
    go_ret
    exact ⟨rfl, ba⟩
  go_wp2_with fail
  refine (toPods_any a cap ls hl _ hra (by omega)).mono ?_
  rintro e wb ⟨rfl, HP, bb, sb⟩
  obtain ⟨N, hN⟩ : ∃ N, N = wa.heap.size := ⟨_, rfl⟩
  rw [← hN] at HP sb ⊢
  have HR : Hid (RowsP wb N 0 ls) := HP
  have hrb : Hid (RowL wb a ls) := rowL_below hra hl bb
  have bwb : Below w.heap.size w wb := ba.trans (bb.mono ba.size)
  clear HP bb hra hr ba hN
  go_wp2_with fail
  refine (zzev_any av tg true u _ ls.length ls HG (fun _ => ⟨by omega, by omega, tg1⟩) _ (Or.inr ⟨N, 0, rfl, HR⟩) (by omega)).mono ?_
  rintro e wc ⟨rfl, bc⟩
  rw [evp_on]
  have HL := ev_least u (tg - av) ls HG.out.1 (by omega)
  obtain ⟨p, hp⟩ : ∃ p, p = (ev u (tg - av) ls 0).1 := ⟨_, rfl⟩
  obtain ⟨s, hs⟩ : ∃ s, s = (ev u (tg - av) ls 0).2 := ⟨_, rfl⟩
  rw [← hp, ← hs] at HL ⊢
  have hRc : Hid (RowsP wc N 0 ls) := fun i hi => rangeAt_below bc (HR.out i hi) sb
  have hrc : Hid (RowL wc a ls) := rowL_below hrb hl bc
  have bwc : Below w.heap.size w wc := bwb.trans (bc.mono bwb.size)
  have sc : N < wc.heap.size := by have := bc.size; omega
  have hal : s = true → p = T := fun h => by rw [hT.out]; exact (HL.short h).1
  have hal2 : s = false → 1 ≤ p := fun h => (HL.full h).1
  replace HL : Hid _ := HL
  clear hp hs bc HR hrb bwb sb
  have hkc : k ≤ cap := by omega
  have hkci : (k : Int) ≤ (cap : Int) := by omega
  have hki : (k : Int) ≤ (ls.length : Int) := by omega
  rcases s with _ | _
  · have hal2 := hal2 rfl
    clear hal
    go_wp2_with fail
    have hlk : (ls.take k).length = k := by simp; omega
    have gt : Hid (Good (ls.take k)) := good_take HG k
    have C1 := zzev_any av tg true u (some ⟨N, 0, none⟩) ls.length (ls.take k) gt (fun _ => ⟨by omega, by omega, tg1⟩) wc (Or.inr ⟨N, 0, rfl, rowsP_take hRc k⟩) (by omega)
    rw [hlk, evp_on] at C1
    refine C1.mono ?_
    clear C1
    rintro e wd ⟨rfl, bd⟩
    have HL2 := ev_least u (tg - av) (ls.take k) gt.out.1 (by omega)
    obtain ⟨q, hq⟩ : ∃ p, p = (ev u (tg - av) (ls.take k) 0).1 := ⟨_, rfl⟩
    obtain ⟨t, ht⟩ : ∃ s, s = (ev u (tg - av) (ls.take k) 0).2 := ⟨_, rfl⟩
    rw [← hq, ← ht] at HL2 ⊢
    have hRd : Hid (RowsP wd N 0 ls) := fun i hi => rangeAt_below bd (hRc.out i hi) sc
    have hrd : Hid (RowL wd a ls) := rowL_below hrc hl bd
    have bwd : Below w.heap.size w wd := bwc.trans (bd.mono bwc.size)
    have sd : N < wd.heap.size := by have := bd.size; omega
    clear hq ht bd hRc hrc bwc sc
    have hdr : Hid (Good (ls.drop k)) := good_drop HG k
    rcases t with _ | _
    · have e12 := cut_head (a := ls.take k) (b := ls.drop k) gt.out.1 hdr.out.1 (by rw [List.take_append_drop]; exact HL.out) HL2
      obtain rfl := e12.1
      clear e12 HL2
      go_wp2
      go_ret
      exact ⟨rfl, bwd⟩
    · obtain ⟨e1, e2⟩ := HL2.short rfl
      replace HL2 : Hid _ := HL2
      replace e2 : Hid _ := e2
      replace e1 : Hid _ := e1
      have hl2 : ∀ l ∈ ls.take k, l.length = 5 := fun l h => hl l (List.mem_of_mem_take h)
      go_wp2_with fail
      have q0 : 0 ≤ q := by rw [e1.out]; exact tot_nonneg _ gt.out.1
      have q1 : q ≤ 9223372036854775807 := by rw [e1.out]; exact gt.out.2
      have C2 := linesTotal_good a cap (ls.take k) hl2 gt wd (rowL_take hrd k) (by omega)
      rw [hlk, ← e1.out] at C2
      refine C2.mono ?_
      clear C2
      rintro e we ⟨rfl, be⟩
      have hRe : Hid (RowsP we N 0 ls) := fun i hi => rangeAt_below be (hRd.out i hi) sd
      have hre : Hid (RowL we a ls) := rowL_below hrd hl be
      have bwe : Below w.heap.size w we := bwd.trans (be.mono bwd.size)
      have se : N < we.heap.size := by have := be.size; omega
      clear be hRd hrd bwd sd
      go_wp2_with fail
      have C3 := prefixFree_any a cap (ls.take k) hl2 gt q q0 q1 u we (rowL_take hre k) (by omega)
      rw [hlk] at C3
      obtain ⟨f, hf⟩ : ∃ f, f = pf u (ls.take k) q := ⟨_, rfl⟩
      have f0 : 0 ≤ f := by rw [hf]; exact pf_nonneg u _ _ gt.out.1 q0
      have f1 : f < tg - av := by rw [hf, e1.out]; exact e2.out
      rw [← hf, cap64_id (by omega)] at C3
      refine C3.mono ?_
      clear C3
      rintro e wf ⟨rfl, bf⟩
      have hRf : Hid (RowsP wf N 0 ls) := fun i hi => rangeAt_below bf (hRe.out i hi) se
      have bwf : Below w.heap.size w wf := bwe.trans (bf.mono bwe.size)
      replace hf : Hid _ := hf
      clear bf hRe hre bwe se
      go_wp2_with fail
      refine (gap_any av tg _ (by omega) (by omega) tg1).mono ?_
      rintro e wg ⟨rfl, rfl⟩
      go_wp2_with fail
      all_goals rw [rest_eq av f (by omega) (by omega) (by omega)]
      · have hd : (ls.drop k).length = 0 := by simp; omega
        have C4 := zzev_any (av + f) tg true u (some ⟨N, 0, none⟩) 0 (ls.drop k) hdr (fun _ => ⟨by omega, by omega, tg1⟩) wg (Or.inl (List.eq_nil_of_length_eq_zero hd)) (by omega)
        rw [hd] at C4
        rw [evp_on] at C4
        refine C4.mono ?_
        clear C4
        rintro e wh ⟨rfl, bh⟩
        have HL3 := ev_least u (tg - (av + f)) (ls.drop k) hdr.out.1 (by omega)
        obtain ⟨r, hr⟩ : ∃ p, p = (ev u (tg - (av + f)) (ls.drop k) 0).1 := ⟨_, rfl⟩
        obtain ⟨v, hv⟩ : ∃ s, s = (ev u (tg - (av + f)) (ls.drop k) 0).2 := ⟨_, rfl⟩
        rw [← hr, ← hv] at HL3 ⊢
        have e34 := cut_tail (a := ls.take k) (b := ls.drop k) gt.out.1 hdr.out.1 (by rw [List.take_append_drop]; exact HL.out) e2.out (by rw [← e1.out, ← hf.out, show tg - av - f = tg - (av + f) by omega]; exact HL3)
        rw [← e1.out] at e34
        have r0 : 0 ≤ r := least_nonneg hdr.out.1 HL3
        have pm := least_le HG.out.1 HL.out
        have pm2 := HG.out.2
        have bwh : Below w.heap.size w wh := bwf.trans (bh.mono bwf.size)
        obtain ⟨rfl, rfl⟩ := e34
        have pm3 : q + r ≤ 9223372036854775807 := by omega
        clear HL3 pm pm2 bh hr hv hRf HL HL2 e1 e2 hf gt hdr
        go_wp2
        go_ret
        exact ⟨rfl, bwh⟩
      · have C4 := zzev_any (av + f) tg true u (some ⟨N, k * 10, none⟩) (ls.length - k) (ls.drop k) hdr (fun _ => ⟨by omega, by omega, tg1⟩) wg (Or.inr ⟨N, k * 10, rfl, by simpa using rowsP_drop hRf.out k⟩) (by simp; omega)
        rw [List.length_drop] at C4
        rw [evp_on] at C4
        refine C4.mono ?_
        clear C4
        rintro e wh ⟨rfl, bh⟩
        have HL3 := ev_least u (tg - (av + f)) (ls.drop k) hdr.out.1 (by omega)
        obtain ⟨r, hr⟩ : ∃ p, p = (ev u (tg - (av + f)) (ls.drop k) 0).1 := ⟨_, rfl⟩
        obtain ⟨v, hv⟩ : ∃ s, s = (ev u (tg - (av + f)) (ls.drop k) 0).2 := ⟨_, rfl⟩
        rw [← hr, ← hv] at HL3 ⊢
        have e34 := cut_tail (a := ls.take k) (b := ls.drop k) gt.out.1 hdr.out.1 (by rw [List.take_append_drop]; exact HL.out) e2.out (by rw [← e1.out, ← hf.out, show tg - av - f = tg - (av + f) by omega]; exact HL3)
        rw [← e1.out] at e34
        have r0 : 0 ≤ r := least_nonneg hdr.out.1 HL3
        have pm := least_le HG.out.1 HL.out
        have pm2 := HG.out.2
        have bwh : Below w.heap.size w wh := bwf.trans (bh.mono bwf.size)
        obtain ⟨rfl, rfl⟩ := e34
        have pm3 : q + r ≤ 9223372036854775807 := by omega
        clear HL3 pm pm2 bh hr hv hRf HL HL2 e1 e2 hf gt hdr
        go_wp2
        go_ret
        exact ⟨rfl, bwh⟩
  · have hal := hal rfl
    clear hal2
    go_wp2_with fail
    have hlk : (ls.take k).length = k := by simp; omega
    have gt : Hid (Good (ls.take k)) := good_take HG k
    have C1 := zzev_any av tg true u (some ⟨N, 0, none⟩) ls.length (ls.take k) gt (fun _ => ⟨by omega, by omega, tg1⟩) wc (Or.inr ⟨N, 0, rfl, rowsP_take hRc k⟩) (by omega)
    rw [hlk, evp_on] at C1
    refine C1.mono ?_
    clear C1
    rintro e wd ⟨rfl, bd⟩
    have HL2 := ev_least u (tg - av) (ls.take k) gt.out.1 (by omega)
    obtain ⟨q, hq⟩ : ∃ p, p = (ev u (tg - av) (ls.take k) 0).1 := ⟨_, rfl⟩
    obtain ⟨t, ht⟩ : ∃ s, s = (ev u (tg - av) (ls.take k) 0).2 := ⟨_, rfl⟩
    rw [← hq, ← ht] at HL2 ⊢
    have hRd : Hid (RowsP wd N 0 ls) := fun i hi => rangeAt_below bd (hRc.out i hi) sc
    have hrd : Hid (RowL wd a ls) := rowL_below hrc hl bd
    have bwd : Below w.heap.size w wd := bwc.trans (bd.mono bwc.size)
    have sd : N < wd.heap.size := by have := bd.size; omega
    clear hq ht bd hRc hrc bwc sc
    have hdr : Hid (Good (ls.drop k)) := good_drop HG k
    rcases t with _ | _
    · have e12 := cut_head (a := ls.take k) (b := ls.drop k) gt.out.1 hdr.out.1 (by rw [List.take_append_drop]; exact HL.out) HL2
      exact absurd e12.2 (by simp)
    · obtain ⟨e1, e2⟩ := HL2.short rfl
      replace HL2 : Hid _ := HL2
      replace e2 : Hid _ := e2
      replace e1 : Hid _ := e1
      have hl2 : ∀ l ∈ ls.take k, l.length = 5 := fun l h => hl l (List.mem_of_mem_take h)
      go_wp2_with fail
      have q0 : 0 ≤ q := by rw [e1.out]; exact tot_nonneg _ gt.out.1
      have q1 : q ≤ 9223372036854775807 := by rw [e1.out]; exact gt.out.2
      have C2 := linesTotal_good a cap (ls.take k) hl2 gt wd (rowL_take hrd k) (by omega)
      rw [hlk, ← e1.out] at C2
      refine C2.mono ?_
      clear C2
      rintro e we ⟨rfl, be⟩
      have hRe : Hid (RowsP we N 0 ls) := fun i hi => rangeAt_below be (hRd.out i hi) sd
      have hre : Hid (RowL we a ls) := rowL_below hrd hl be
      have bwe : Below w.heap.size w we := bwd.trans (be.mono bwd.size)
      have se : N < we.heap.size := by have := be.size; omega
      clear be hRd hrd bwd sd
      go_wp2_with fail
      have C3 := prefixFree_any a cap (ls.take k) hl2 gt q q0 q1 u we (rowL_take hre k) (by omega)
      rw [hlk] at C3
      obtain ⟨f, hf⟩ : ∃ f, f = pf u (ls.take k) q := ⟨_, rfl⟩
      have f0 : 0 ≤ f := by rw [hf]; exact pf_nonneg u _ _ gt.out.1 q0
      have f1 : f < tg - av := by rw [hf, e1.out]; exact e2.out
      rw [← hf, cap64_id (by omega)] at C3
      refine C3.mono ?_
      clear C3
      rintro e wf ⟨rfl, bf⟩
      have hRf : Hid (RowsP wf N 0 ls) := fun i hi => rangeAt_below bf (hRe.out i hi) se
      have bwf : Below w.heap.size w wf := bwe.trans (bf.mono bwe.size)
      replace hf : Hid _ := hf
      clear bf hRe hre bwe se
      go_wp2_with fail
      refine (gap_any av tg _ (by omega) (by omega) tg1).mono ?_
      rintro e wg ⟨rfl, rfl⟩
      go_wp2_with fail
      all_goals rw [rest_eq av f (by omega) (by omega) (by omega)]
      · have hd : (ls.drop k).length = 0 := by simp; omega
        have C4 := zzev_any (av + f) tg true u (some ⟨N, 0, none⟩) 0 (ls.drop k) hdr (fun _ => ⟨by omega, by omega, tg1⟩) wg (Or.inl (List.eq_nil_of_length_eq_zero hd)) (by omega)
        rw [hd] at C4
        rw [evp_on] at C4
        refine C4.mono ?_
        clear C4
        rintro e wh ⟨rfl, bh⟩
        have HL3 := ev_least u (tg - (av + f)) (ls.drop k) hdr.out.1 (by omega)
        obtain ⟨r, hr⟩ : ∃ p, p = (ev u (tg - (av + f)) (ls.drop k) 0).1 := ⟨_, rfl⟩
        obtain ⟨v, hv⟩ : ∃ s, s = (ev u (tg - (av + f)) (ls.drop k) 0).2 := ⟨_, rfl⟩
        rw [← hr, ← hv] at HL3 ⊢
        have e34 := cut_tail (a := ls.take k) (b := ls.drop k) gt.out.1 hdr.out.1 (by rw [List.take_append_drop]; exact HL.out) e2.out (by rw [← e1.out, ← hf.out, show tg - av - f = tg - (av + f) by omega]; exact HL3)
        rw [← e1.out] at e34
        have r0 : 0 ≤ r := least_nonneg hdr.out.1 HL3
        have pm := least_le HG.out.1 HL.out
        have pm2 := HG.out.2
        have bwh : Below w.heap.size w wh := bwf.trans (bh.mono bwf.size)
        obtain ⟨rfl, rfl⟩ := e34
        have pm3 : q + r ≤ 9223372036854775807 := by omega
        clear HL3 pm pm2 bh hr hv hRf HL HL2 e1 e2 hf gt hdr
        go_wp2
        go_ret
        exact ⟨rfl, bwh⟩
      · have C4 := zzev_any (av + f) tg true u (some ⟨N, k * 10, none⟩) (ls.length - k) (ls.drop k) hdr (fun _ => ⟨by omega, by omega, tg1⟩) wg (Or.inr ⟨N, k * 10, rfl, by simpa using rowsP_drop hRf.out k⟩) (by simp; omega)
        rw [List.length_drop] at C4
        rw [evp_on] at C4
        refine C4.mono ?_
        clear C4
        rintro e wh ⟨rfl, bh⟩
        have HL3 := ev_least u (tg - (av + f)) (ls.drop k) hdr.out.1 (by omega)
        obtain ⟨r, hr⟩ : ∃ p, p = (ev u (tg - (av + f)) (ls.drop k) 0).1 := ⟨_, rfl⟩
        obtain ⟨v, hv⟩ : ∃ s, s = (ev u (tg - (av + f)) (ls.drop k) 0).2 := ⟨_, rfl⟩
        rw [← hr, ← hv] at HL3 ⊢
        have e34 := cut_tail (a := ls.take k) (b := ls.drop k) gt.out.1 hdr.out.1 (by rw [List.take_append_drop]; exact HL.out) e2.out (by rw [← e1.out, ← hf.out, show tg - av - f = tg - (av + f) by omega]; exact HL3)
        rw [← e1.out] at e34
        have r0 : 0 ≤ r := least_nonneg hdr.out.1 HL3
        have pm := least_le HG.out.1 HL.out
        have pm2 := HG.out.2
        have bwh : Below w.heap.size w wh := bwf.trans (bh.mono bwf.size)
        obtain ⟨rfl, rfl⟩ := e34
        have pm3 : q + r ≤ 9223372036854775807 := by omega
        clear HL3 pm pm2 bh hr hv hRf HL HL2 e1 e2 hf gt hdr
        go_wp2
        go_ret
        exact ⟨rfl, bwh⟩
end Go.Proofs.Qxb6617981a
