/- Seat b6617981a: the law on each end: the walk. -/
import Derived.Test.Qxb6617981aWalkG
import Derived.Deep.RegionHeld3
namespace Go.Proofs.Qxb6617981a
open Go.RowKit
set_option linter.unusedSimpArgs false
set_option linter.unusedVariables false

section
attribute [local go_sem ↓] exec_st38
set_option maxRecDepth 100000 in
set_option maxHeartbeats 3200000 in
theorem law5_any (c i u th tg : Int) (a : Option Addr) (cap : Nat) (ls : List (List Int)) (hl : ∀ l ∈ ls, l.length = 5) (hrg : ∀ l ∈ ls, Rg l) (w : World) (hr : RowL w a ls) (hz : ls.length ≤ 9223372036854775807)
    (c1 : c ≤ 9223372036854775807) (i1 : -9223372036854775808 ≤ i) (u11 : u ≤ 9223372036854775807) (tg1 : tg ≤ 9223372036854775807) :
    Calls Try.prog 5 #[.int .i64 c, .int .i64 i, .int .i64 u, .int .i64 th, .int .i64 tg, .slice a ls.length cap] w fun e w' => e = .returned (.bool true) ∧ Below w.heap.size w w' := by
  go_enter Try.func5, Try.ntmps5
  go_wp2_with fail
  refine (zzBytes14_any c i u th tg a ls.length cap _ hz).mono ?_
  rintro e w ⟨t, rfl, rfl⟩
  rcases t with _ | _
  · go_wp2
    go_ret
    exact ⟨rfl, Below.refl _ _⟩
  by_cases k1 : 4096 < ls.length
  · go_wp2
    go_ret
    exact ⟨rfl, Below.refl _ _⟩
  by_cases k2 : i < 0
  · go_wp2
    go_ret
    exact ⟨rfl, Below.refl _ _⟩
  by_cases k3 : c < i
  · go_wp2
    go_ret
    exact ⟨rfl, Below.refl _ _⟩
  by_cases k4 : u < 0
  · go_wp2
    go_ret
    exact ⟨rfl, Below.refl _ _⟩
  by_cases k6 : tg < th
  · go_wp2
    go_ret
    exact ⟨rfl, Below.refl _ _⟩
  go_wp2_with fail
  refine (linesTotal_any a cap ls hl hrg _ hr (by omega)).mono ?_
  rintro e wa ⟨⟨T, b, rfl, hG⟩, ba⟩
  replace hG : Hid _ := hG
  rcases b with _ | _
  · go_wp2
    go_ret
    exact ⟨rfl, ba⟩
  have hG2 := hG.out rfl
  have HG : Hid (Good ls) := hG2.2
  have hT : Hid (T = tot ls) := hG2.1
  clear hG hG2 hrg
  have hra : RowL wa a ls := rowL_below hr hl ba
  clear hr
  go_wp2_with fail
  obtain ⟨wx, hwx⟩ : ∃ wx, wx = wa.alloc (Obj.cells #[Value.int IntKind.i64 c, Value.int IntKind.i64 i, Value.int IntKind.i64 u] 35) := ⟨_, rfl⟩
  have bx : Below wa.heap.size wa wx := by rw [hwx]; exact (Below.refl _ _).alloc (Nat.le_refl _) _
  have sx : wa.heap.size < wx.heap.size := by rw [hwx]; simp
  have X1 : wx.heap[wa.heap.size]? = some (Obj.cells #[Value.int IntKind.i64 c, Value.int IntKind.i64 i, Value.int IntKind.i64 u] 35) := by rw [hwx]; exact heap_alloc_new _ _
  rw [← hwx]
  have hrx : RowL wx a ls := rowL_below hra hl bx
  have bwx : Below w.heap.size w wx := ba.trans (bx.mono ba.size)
  obtain ⟨M, hM⟩ : ∃ M, M = wa.heap.size := ⟨_, rfl⟩
  rw [← hM] at sx X1 ⊢
  clear hwx bx hra ba hM
  have S0 : (wx.drew.cell? ⟨M, 0, none⟩ = some (.int .i64 c) ∧ wx.drew.cell? ⟨M, 1, none⟩ = some (.int .i64 i) ∧ wx.drew.cell? ⟨M, 2, none⟩ = some (.int .i64 u) ∧ Below wx.heap.size wx wx.drew) := ⟨cell_of_row wx.drew M 0 _ 35 (0, 0) X1, cell_of_row wx.drew M 1 _ 35 (0, 0) X1, cell_of_row wx.drew M 2 _ 35 (0, 0) X1, (Below.refl _ _).drew⟩
  have SK : ∀ W w1, (W.cell? ⟨M, 0, none⟩ = some (.int .i64 c) ∧ W.cell? ⟨M, 1, none⟩ = some (.int .i64 i) ∧ W.cell? ⟨M, 2, none⟩ = some (.int .i64 u) ∧ Below wx.heap.size wx W) → Below wx.heap.size W w1 → (w1.cell? ⟨M, 0, none⟩ = some (.int .i64 c) ∧ w1.cell? ⟨M, 1, none⟩ = some (.int .i64 i) ∧ w1.cell? ⟨M, 2, none⟩ = some (.int .i64 u) ∧ Below wx.heap.size wx w1) := fun W w1 h b => by
    have b2 : Below wx.heap.size wx w1 := h.2.2.2.trans b
    have X2 := (b2.block M (by omega)).trans X1
    exact ⟨cell_of_row w1 M 0 _ 35 (0, 0) X2, cell_of_row w1 M 1 _ 35 (0, 0) X2, cell_of_row w1 M 2 _ 35 (0, 0) X2, b2⟩
  have H10 : ∀ W, (W.cell? ⟨M, 0, none⟩ = some (.int .i64 c) ∧ W.cell? ⟨M, 1, none⟩ = some (.int .i64 i) ∧ W.cell? ⟨M, 2, none⟩ = some (.int .i64 u) ∧ Below wx.heap.size wx W) → Calls Try.prog 10 #[.slice a ls.length cap] W fun e w' => e = .returned (.slice (some ⟨W.heap.size, 0, none⟩) ls.length ls.length) ∧ RowsP w' W.heap.size 0 ls ∧ Below W.heap.size W w' ∧ W.heap.size < w'.heap.size := fun W h => toPods_any a cap ls hl W (rowL_below hrx hl h.2.2.2) (by omega)
  obtain ⟨F, hF⟩ : ∃ F, F = (evp (decide (c - i < th)) true (tg - (c - i)) ls).1 := ⟨_, rfl⟩
  obtain ⟨s, hs⟩ : ∃ s, s = (evp (decide (c - i < th)) true (tg - (c - i)) ls).2 := ⟨_, rfl⟩
  obtain ⟨A, hA⟩ : ∃ A, A = (evp (decide (max (c - i - u) 0 < th)) false (tg - (c - i - u)) ls).1 := ⟨_, rfl⟩
  obtain ⟨p, hp⟩ : ∃ p, p = (evp (decide (max (c - i - u) 0 < th)) false (tg - (c - i - u)) ls).2 := ⟨_, rfl⟩
  obtain ⟨z, hz1⟩ : ∃ z1, z1 = ans s p := ⟨_, rfl⟩
  have H15 : ∀ W (n : Nat), RowsP W n 0 ls → Calls Try.prog 15 #[.agg #[.int .i64 c, .int .i64 i, .int .i64 u], .int .i64 th, .int .i64 tg, .slice (some ⟨n, 0, none⟩) ls.length ls.length] W fun e w' => e = .returned (.agg #[.int .i64 F, .int .i64 A, .int .i64 z]) ∧ Below W.heap.size W w' := fun W n h => by
    rw [hz1, hF, hA, hs, hp]
    exact reclaim_any c i u th tg _ ls.length ls HG (by omega) (by omega) (by omega) c1 u11 (by omega) tg1 W (Or.inr ⟨n, 0, rfl, h⟩) (by omega)
  have HA : ∀ (W : World), Sem.run Try.prog (stS 38 (.pointer (some ⟨W.heap.size, 0, none⟩)) (.agg #[.int .i64 F, .int .i64 A, .int .i64 z])) (W.alloc (.cells #[.int .i64 0, .int .i64 0, .int .i64 0] 38)) = .ok .skip (W.alloc (.cells #[.int .i64 F, .int .i64 A, .int .i64 z] 38)) := fun W => by
    rw [run_st38 (heap_alloc_new _ _) rfl, setRow_alloc_new]
  have UKA : Hid (∀ W o, (W.cell? ⟨M, 0, none⟩ = some (.int .i64 c) ∧ W.cell? ⟨M, 1, none⟩ = some (.int .i64 i) ∧ W.cell? ⟨M, 2, none⟩ = some (.int .i64 u) ∧ Below wx.heap.size wx W) → ((W.alloc o).cell? ⟨M, 0, none⟩ = some (.int .i64 c) ∧ (W.alloc o).cell? ⟨M, 1, none⟩ = some (.int .i64 i) ∧ (W.alloc o).cell? ⟨M, 2, none⟩ = some (.int .i64 u) ∧ Below wx.heap.size wx (W.alloc o))) := fun W o h => SK W _ h ((Below.refl _ _).alloc h.2.2.2.size _)
  have UKB : Hid (∀ W w1, (W.cell? ⟨M, 0, none⟩ = some (.int .i64 c) ∧ W.cell? ⟨M, 1, none⟩ = some (.int .i64 i) ∧ W.cell? ⟨M, 2, none⟩ = some (.int .i64 u) ∧ Below wx.heap.size wx W) → Below W.heap.size W w1 → (w1.cell? ⟨M, 0, none⟩ = some (.int .i64 c) ∧ w1.cell? ⟨M, 1, none⟩ = some (.int .i64 i) ∧ w1.cell? ⟨M, 2, none⟩ = some (.int .i64 u) ∧ Below wx.heap.size wx w1)) := fun W w1 h b => SK W _ h (b.mono h.2.2.2.size)
  have UKR : Hid (∀ W w1 cs, (W.cell? ⟨M, 0, none⟩ = some (.int .i64 c) ∧ W.cell? ⟨M, 1, none⟩ = some (.int .i64 i) ∧ W.cell? ⟨M, 2, none⟩ = some (.int .i64 u) ∧ Below wx.heap.size wx W) → (w1.cell? ⟨M, 0, none⟩ = some (.int .i64 c) ∧ w1.cell? ⟨M, 1, none⟩ = some (.int .i64 i) ∧ w1.cell? ⟨M, 2, none⟩ = some (.int .i64 u) ∧ Below wx.heap.size wx w1) → ((W.setRow w1.heap.size cs).cell? ⟨M, 0, none⟩ = some (.int .i64 c) ∧ (W.setRow w1.heap.size cs).cell? ⟨M, 1, none⟩ = some (.int .i64 i) ∧ (W.setRow w1.heap.size cs).cell? ⟨M, 2, none⟩ = some (.int .i64 u) ∧ Below wx.heap.size wx (W.setRow w1.heap.size cs))) := fun W w1 cs h h1 => SK W _ h (below_setRow (Below.refl _ _) h1.2.2.2.size _)
  have UF : Hid (∀ W, (W.cell? ⟨M, 0, none⟩ = some (.int .i64 c) ∧ W.cell? ⟨M, 1, none⟩ = some (.int .i64 i) ∧ W.cell? ⟨M, 2, none⟩ = some (.int .i64 u) ∧ Below wx.heap.size wx W) → Below w.heap.size w W ∧ RowL W a ls) := fun W h => ⟨bwx.trans (h.2.2.2.mono bwx.size), rowL_below hrx hl h.2.2.2⟩
  have U10 : Hid (∀ W, _) := H10
  have U15 : Hid (∀ W, _) := H15
  have U0 : Hid (_ ∧ _) := S0
  replace hF : Hid _ := hF
  replace hs : Hid _ := hs
  replace hA : Hid _ := hA
  replace hp : Hid _ := hp
  replace hz1 : Hid _ := hz1
  replace X1 : Hid _ := X1
  clear H10 H15 SK S0
  go_region_held3 (fun W => (W.cell? ⟨M, 0, none⟩ = some (.int .i64 c) ∧ W.cell? ⟨M, 1, none⟩ = some (.int .i64 i) ∧ W.cell? ⟨M, 2, none⟩ = some (.int .i64 u) ∧ Below wx.heap.size wx W))
    (first | assumption | exact U0.out | exact UKA.out _ _ (by assumption) | exact UKB.out _ _ (by assumption) hb2 | exact UKB.out _ _ (by assumption) hb1 | exact UKA.out _ _ (UKB.out _ _ (UKB.out _ _ U0.out hb1) hb2) | exact UKR.out _ w1 _ (by assumption) (UKB.out _ _ U0.out hb1) | exact UKR.out _ wx.drew _ (by assumption) U0.out)
    (first
      | (go_at_call 10; refine (U10.out _ (by assumption)).mono ?_; rintro e w1 ⟨rfl, HP1, hb1, hs1⟩)
      | (go_at_call 15; refine (U15.out _ _ (by first | exact HP1 | (simpa using HP1) | exact fun i hi => World.rangeAt_alloc (HP1 i hi) _)).mono ?_; rintro e w2 ⟨rfl, hb2⟩;
         first
           | (have HT : Sem.run Try.prog (stS 38 (.pointer (some ⟨w1.heap.size, 0, none⟩)) (.agg #[.int .i64 F, .int .i64 A, .int .i64 z])) w2 = .ok .skip (w2.setRow w1.heap.size #[.int .i64 F, .int .i64 A, .int .i64 z]) := run_st38 ((hb2.block w1.heap.size (by simp)).trans (heap_alloc_new _ _)) rfl F A z)
           | (have HT : Sem.run Try.prog (stS 38 (.pointer (some ⟨wx.heap.size, 0, none⟩)) (.agg #[.int .i64 F, .int .i64 A, .int .i64 z])) w2 = .ok .skip (w2.setRow wx.heap.size #[.int .i64 F, .int .i64 A, .int .i64 z]) := run_st38 ((hb2.block wx.heap.size (by have := hb1.size; simp at this; omega)).trans ((hb1.block wx.heap.size (by simp)).trans (heap_alloc_new _ _))) rfl F A z)
           | skip))
  -- THE TAIL
  · obtain ⟨bwf, hrf⟩ := UF.out (w2.alloc (.cells #[.int .i64 F, .int .i64 A, .int .i64 z] 38)) (by assumption)
    have HK : (w2.alloc (.cells #[.int .i64 F, .int .i64 A, .int .i64 z] 38)).heap[w2.heap.size]? = some (.cells #[.int .i64 F, .int .i64 A, .int .i64 z] 38) := heap_alloc_new _ _
    obtain ⟨wf, hwf⟩ : ∃ wf, wf = w2.alloc (.cells #[.int .i64 F, .int .i64 A, .int .i64 z] 38) := ⟨_, rfl⟩
    obtain ⟨K, hK⟩ : ∃ K, K = w2.heap.size := ⟨_, rfl⟩
    rw [← hwf] at HK bwf hrf ⊢
    rw [← hK] at HK ⊢
    have hKl : K < wf.heap.size := (Array.getElem?_eq_some_iff.1 HK).1
    replace HK : Hid _ := HK
    clear hwf hK
    clear UF UKA UKB UKR U10 U15 U0 HA X1 hb1 hb2 HP1 hrx bwx sx
    by_cases k7 : c - i < th
    · have k8 : max (c - i - u) 0 < th := by omega
      have hF2 : F = (ev true (tg - (c - i)) ls 0).1 := by rw [hF.out, decide_eq_true k7]; rfl
      have hs2 : s = (ev true (tg - (c - i)) ls 0).2 := by rw [hs.out, decide_eq_true k7]; rfl
      have hA2 : A = (ev false (tg - (c - i - u)) ls 0).1 := by rw [hA.out, decide_eq_true k8]; rfl
      have hp2 : p = (ev false (tg - (c - i - u)) ls 0).2 := by rw [hp.out, decide_eq_true k8]; rfl
      have k9 : 0 < th := by omega
      have k10 : c - i - u < th := by omega
      clear k8 hF hs hA hp
      replace hF2 : Hid _ := hF2
      replace hs2 : Hid _ := hs2
      replace hA2 : Hid _ := hA2
      replace hp2 : Hid _ := hp2
      go_wp2_with fail
      rw [hT.out]
      refine (leastReaching_any (c - i) tg a cap ls hl HG true _ hrf (by omega) (by omega) (by omega) tg1).mono ?_
      rintro e wg ⟨rfl, bg⟩
      rw [← hT.out, ← hF2.out, ← hs2.out]
      replace HK : Hid _ := (bg.block K hKl).trans HK.out
      have hrg : RowL wg a ls := rowL_below hrf hl bg
      have bwg : Below w.heap.size w wg := bwf.trans (bg.mono bwf.size)
      have hKl2 : K < wg.heap.size := by have := bg.size; omega
      clear bg hrf bwf hKl
      go_wp2_with fail
      rw [hT.out]
      refine (leastReaching_any (c - i - u) tg a cap ls hl HG false _ hrg (by omega) (by omega) (by omega) tg1).mono ?_
      rintro e wh ⟨rfl, bh⟩
      rw [← hT.out, ← hA2.out, ← hp2.out]
      replace HK := (bh.block K hKl2).trans HK.out
      have bwf : Below w.heap.size w wh := bwg.trans (bh.mono bwg.size)
      clear bh hrg bwg
      have D0 : wh.cell? ⟨K, 0, none⟩ = some (.int .i64 F) := cell_of_row wh K 0 _ 38 (0, 0) HK
      have D1 : wh.cell? ⟨K, 1, none⟩ = some (.int .i64 A) := cell_of_row wh K 1 _ 38 (0, 0) HK
      have D2 : wh.cell? ⟨K, 2, none⟩ = some (.int .i64 z) := cell_of_row wh K 2 _ 38 (0, 0) HK
      clear HK
      rcases s with _ | _
      · rcases p with _ | _
        · obtain rfl : z = 0 := hz1.out
          go_wp2
          go_ret
          exact ⟨rfl, bwf⟩
        · obtain rfl : z = 2 := hz1.out
          go_wp2
          go_ret
          exact ⟨rfl, bwf⟩
      · obtain rfl : z = 1 := hz1.out
        go_wp2
        go_ret
        exact ⟨rfl, bwf⟩
    · obtain rfl : F = 0 := by rw [hF.out, decide_eq_false k7]; rfl
      obtain rfl : s = false := by rw [hs.out, decide_eq_false k7]; rfl
      by_cases k8 : max (c - i - u) 0 < th
      · have hA2 : A = (ev false (tg - (c - i - u)) ls 0).1 := by rw [hA.out, decide_eq_true k8]; rfl
        have hp2 : p = (ev false (tg - (c - i - u)) ls 0).2 := by rw [hp.out, decide_eq_true k8]; rfl
        have k9 : 0 < th := by omega
        have k10 : c - i - u < th := by omega
        clear k8 hF hs hA hp
        replace hA2 : Hid _ := hA2
        replace hp2 : Hid _ := hp2
        go_wp2_with fail
        rw [hT.out]
        refine (leastReaching_any (c - i - u) tg a cap ls hl HG false _ hrf (by omega) (by omega) (by omega) tg1).mono ?_
        rintro e wh ⟨rfl, bh⟩
        rw [← hT.out, ← hA2.out, ← hp2.out]
        replace HK := (bh.block K hKl).trans HK.out
        replace bwf : Below w.heap.size w wh := bwf.trans (bh.mono bwf.size)
        clear bh hrf
        have D0 : wh.cell? ⟨K, 0, none⟩ = some (.int .i64 0) := cell_of_row wh K 0 _ 38 (0, 0) HK
        have D1 : wh.cell? ⟨K, 1, none⟩ = some (.int .i64 A) := cell_of_row wh K 1 _ 38 (0, 0) HK
        have D2 : wh.cell? ⟨K, 2, none⟩ = some (.int .i64 z) := cell_of_row wh K 2 _ 38 (0, 0) HK
        clear HK
        rcases p with _ | _
        · obtain rfl : z = 0 := hz1.out
          go_wp2
          go_ret
          exact ⟨rfl, bwf⟩
        · obtain rfl : z = 2 := hz1.out
          go_wp2
          go_ret
          exact ⟨rfl, bwf⟩
      · obtain rfl : A = 0 := by rw [hA.out, decide_eq_false k8]; rfl
        obtain rfl : p = false := by rw [hp.out, decide_eq_false k8]; rfl
        obtain rfl : z = 0 := hz1.out
        replace HK := HK.out
        have D0 : wf.cell? ⟨K, 0, none⟩ = some (.int .i64 0) := cell_of_row wf K 0 _ 38 (0, 0) HK
        have D1 : wf.cell? ⟨K, 1, none⟩ = some (.int .i64 0) := cell_of_row wf K 1 _ 38 (0, 0) HK
        have D2 : wf.cell? ⟨K, 2, none⟩ = some (.int .i64 0) := cell_of_row wf K 2 _ 38 (0, 0) HK
        clear HK
        by_cases k10 : c - i - u < th
        · have k9 : th ≤ 0 := by omega
          clear k8 hF hs hA hp
          go_wp2
          go_ret
          exact ⟨rfl, bwf⟩
        · clear k8 hF hs hA hp
          go_wp2
          go_ret
          exact ⟨rfl, bwf⟩
  · obtain ⟨bwf, hrf⟩ := UF.out (w2.setRow w1.heap.size #[.int .i64 F, .int .i64 A, .int .i64 z]) (by assumption)
    have HK : (w2.setRow w1.heap.size #[.int .i64 F, .int .i64 A, .int .i64 z]).heap[w1.heap.size]? = some (.cells #[.int .i64 F, .int .i64 A, .int .i64 z] 38) := setRow_heap _ _ _ _ 38 (0, 0) ((hb2.block w1.heap.size (by simp)).trans (heap_alloc_new _ _))
    obtain ⟨wf, hwf⟩ : ∃ wf, wf = w2.setRow w1.heap.size #[.int .i64 F, .int .i64 A, .int .i64 z] := ⟨_, rfl⟩
    obtain ⟨K, hK⟩ : ∃ K, K = w1.heap.size := ⟨_, rfl⟩
    rw [← hwf] at HK bwf hrf ⊢
    rw [← hK] at HK ⊢
    have hKl : K < wf.heap.size := (Array.getElem?_eq_some_iff.1 HK).1
    replace HK : Hid _ := HK
    clear hwf hK
    clear HT UF UKA UKB UKR U10 U15 U0 HA X1 hb1 hb2 HP1 hrx bwx sx
    by_cases k7 : c - i < th
    · have k8 : max (c - i - u) 0 < th := by omega
      have hF2 : F = (ev true (tg - (c - i)) ls 0).1 := by rw [hF.out, decide_eq_true k7]; rfl
      have hs2 : s = (ev true (tg - (c - i)) ls 0).2 := by rw [hs.out, decide_eq_true k7]; rfl
      have hA2 : A = (ev false (tg - (c - i - u)) ls 0).1 := by rw [hA.out, decide_eq_true k8]; rfl
      have hp2 : p = (ev false (tg - (c - i - u)) ls 0).2 := by rw [hp.out, decide_eq_true k8]; rfl
      have k9 : 0 < th := by omega
      have k10 : c - i - u < th := by omega
      clear k8 hF hs hA hp
      replace hF2 : Hid _ := hF2
      replace hs2 : Hid _ := hs2
      replace hA2 : Hid _ := hA2
      replace hp2 : Hid _ := hp2
      go_wp2_with fail
      rw [hT.out]
      refine (leastReaching_any (c - i) tg a cap ls hl HG true _ hrf (by omega) (by omega) (by omega) tg1).mono ?_
      rintro e wg ⟨rfl, bg⟩
      rw [← hT.out, ← hF2.out, ← hs2.out]
      replace HK : Hid _ := (bg.block K hKl).trans HK.out
      have hrg : RowL wg a ls := rowL_below hrf hl bg
      have bwg : Below w.heap.size w wg := bwf.trans (bg.mono bwf.size)
      have hKl2 : K < wg.heap.size := by have := bg.size; omega
      clear bg hrf bwf hKl
      go_wp2_with fail
      rw [hT.out]
      refine (leastReaching_any (c - i - u) tg a cap ls hl HG false _ hrg (by omega) (by omega) (by omega) tg1).mono ?_
      rintro e wh ⟨rfl, bh⟩
      rw [← hT.out, ← hA2.out, ← hp2.out]
      replace HK := (bh.block K hKl2).trans HK.out
      have bwf : Below w.heap.size w wh := bwg.trans (bh.mono bwg.size)
      clear bh hrg bwg
      have D0 : wh.cell? ⟨K, 0, none⟩ = some (.int .i64 F) := cell_of_row wh K 0 _ 38 (0, 0) HK
      have D1 : wh.cell? ⟨K, 1, none⟩ = some (.int .i64 A) := cell_of_row wh K 1 _ 38 (0, 0) HK
      have D2 : wh.cell? ⟨K, 2, none⟩ = some (.int .i64 z) := cell_of_row wh K 2 _ 38 (0, 0) HK
      clear HK
      rcases s with _ | _
      · rcases p with _ | _
        · obtain rfl : z = 0 := hz1.out
          go_wp2
          go_ret
          exact ⟨rfl, bwf⟩
        · obtain rfl : z = 2 := hz1.out
          go_wp2
          go_ret
          exact ⟨rfl, bwf⟩
      · obtain rfl : z = 1 := hz1.out
        go_wp2
        go_ret
        exact ⟨rfl, bwf⟩
    · obtain rfl : F = 0 := by rw [hF.out, decide_eq_false k7]; rfl
      obtain rfl : s = false := by rw [hs.out, decide_eq_false k7]; rfl
      by_cases k8 : max (c - i - u) 0 < th
      · have hA2 : A = (ev false (tg - (c - i - u)) ls 0).1 := by rw [hA.out, decide_eq_true k8]; rfl
        have hp2 : p = (ev false (tg - (c - i - u)) ls 0).2 := by rw [hp.out, decide_eq_true k8]; rfl
        have k9 : 0 < th := by omega
        have k10 : c - i - u < th := by omega
        clear k8 hF hs hA hp
        replace hA2 : Hid _ := hA2
        replace hp2 : Hid _ := hp2
        go_wp2_with fail
        rw [hT.out]
        refine (leastReaching_any (c - i - u) tg a cap ls hl HG false _ hrf (by omega) (by omega) (by omega) tg1).mono ?_
        rintro e wh ⟨rfl, bh⟩
        rw [← hT.out, ← hA2.out, ← hp2.out]
        replace HK := (bh.block K hKl).trans HK.out
        replace bwf : Below w.heap.size w wh := bwf.trans (bh.mono bwf.size)
        clear bh hrf
        have D0 : wh.cell? ⟨K, 0, none⟩ = some (.int .i64 0) := cell_of_row wh K 0 _ 38 (0, 0) HK
        have D1 : wh.cell? ⟨K, 1, none⟩ = some (.int .i64 A) := cell_of_row wh K 1 _ 38 (0, 0) HK
        have D2 : wh.cell? ⟨K, 2, none⟩ = some (.int .i64 z) := cell_of_row wh K 2 _ 38 (0, 0) HK
        clear HK
        rcases p with _ | _
        · obtain rfl : z = 0 := hz1.out
          go_wp2
          go_ret
          exact ⟨rfl, bwf⟩
        · obtain rfl : z = 2 := hz1.out
          go_wp2
          go_ret
          exact ⟨rfl, bwf⟩
      · obtain rfl : A = 0 := by rw [hA.out, decide_eq_false k8]; rfl
        obtain rfl : p = false := by rw [hp.out, decide_eq_false k8]; rfl
        obtain rfl : z = 0 := hz1.out
        replace HK := HK.out
        have D0 : wf.cell? ⟨K, 0, none⟩ = some (.int .i64 0) := cell_of_row wf K 0 _ 38 (0, 0) HK
        have D1 : wf.cell? ⟨K, 1, none⟩ = some (.int .i64 0) := cell_of_row wf K 1 _ 38 (0, 0) HK
        have D2 : wf.cell? ⟨K, 2, none⟩ = some (.int .i64 0) := cell_of_row wf K 2 _ 38 (0, 0) HK
        clear HK
        by_cases k10 : c - i - u < th
        · have k9 : th ≤ 0 := by omega
          clear k8 hF hs hA hp
          go_wp2
          go_ret
          exact ⟨rfl, bwf⟩
        · clear k8 hF hs hA hp
          go_wp2
          go_ret
          exact ⟨rfl, bwf⟩
  · obtain ⟨bwf, hrf⟩ := UF.out (w2.setRow wx.heap.size #[.int .i64 F, .int .i64 A, .int .i64 z]) (by assumption)
    have HK : (w2.setRow wx.heap.size #[.int .i64 F, .int .i64 A, .int .i64 z]).heap[wx.heap.size]? = some (.cells #[.int .i64 F, .int .i64 A, .int .i64 z] 38) := setRow_heap _ _ _ _ 38 (0, 0) ((hb2.block wx.heap.size (by have := hb1.size; simp at this; omega)).trans ((hb1.block wx.heap.size (by simp)).trans (heap_alloc_new _ _)))
    obtain ⟨wf, hwf⟩ : ∃ wf, wf = w2.setRow wx.heap.size #[.int .i64 F, .int .i64 A, .int .i64 z] := ⟨_, rfl⟩
    obtain ⟨K, hK⟩ : ∃ K, K = wx.heap.size := ⟨_, rfl⟩
    rw [← hwf] at HK bwf hrf ⊢
    rw [← hK] at HK ⊢
    have hKl : K < wf.heap.size := (Array.getElem?_eq_some_iff.1 HK).1
    replace HK : Hid _ := HK
    clear hwf hK
    clear HT UF UKA UKB UKR U10 U15 U0 HA X1 hb1 hb2 HP1 hrx bwx sx
    by_cases k7 : c - i < th
    · have k8 : max (c - i - u) 0 < th := by omega
      have hF2 : F = (ev true (tg - (c - i)) ls 0).1 := by rw [hF.out, decide_eq_true k7]; rfl
      have hs2 : s = (ev true (tg - (c - i)) ls 0).2 := by rw [hs.out, decide_eq_true k7]; rfl
      have hA2 : A = (ev false (tg - (c - i - u)) ls 0).1 := by rw [hA.out, decide_eq_true k8]; rfl
      have hp2 : p = (ev false (tg - (c - i - u)) ls 0).2 := by rw [hp.out, decide_eq_true k8]; rfl
      have k9 : 0 < th := by omega
      have k10 : c - i - u < th := by omega
      clear k8 hF hs hA hp
      replace hF2 : Hid _ := hF2
      replace hs2 : Hid _ := hs2
      replace hA2 : Hid _ := hA2
      replace hp2 : Hid _ := hp2
      go_wp2_with fail
      rw [hT.out]
      refine (leastReaching_any (c - i) tg a cap ls hl HG true _ hrf (by omega) (by omega) (by omega) tg1).mono ?_
      rintro e wg ⟨rfl, bg⟩
      rw [← hT.out, ← hF2.out, ← hs2.out]
      replace HK : Hid _ := (bg.block K hKl).trans HK.out
      have hrg : RowL wg a ls := rowL_below hrf hl bg
      have bwg : Below w.heap.size w wg := bwf.trans (bg.mono bwf.size)
      have hKl2 : K < wg.heap.size := by have := bg.size; omega
      clear bg hrf bwf hKl
      go_wp2_with fail
      rw [hT.out]
      refine (leastReaching_any (c - i - u) tg a cap ls hl HG false _ hrg (by omega) (by omega) (by omega) tg1).mono ?_
      rintro e wh ⟨rfl, bh⟩
      rw [← hT.out, ← hA2.out, ← hp2.out]
      replace HK := (bh.block K hKl2).trans HK.out
      have bwf : Below w.heap.size w wh := bwg.trans (bh.mono bwg.size)
      clear bh hrg bwg
      have D0 : wh.cell? ⟨K, 0, none⟩ = some (.int .i64 F) := cell_of_row wh K 0 _ 38 (0, 0) HK
      have D1 : wh.cell? ⟨K, 1, none⟩ = some (.int .i64 A) := cell_of_row wh K 1 _ 38 (0, 0) HK
      have D2 : wh.cell? ⟨K, 2, none⟩ = some (.int .i64 z) := cell_of_row wh K 2 _ 38 (0, 0) HK
      clear HK
      rcases s with _ | _
      · rcases p with _ | _
        · obtain rfl : z = 0 := hz1.out
          go_wp2
          go_ret
          exact ⟨rfl, bwf⟩
        · obtain rfl : z = 2 := hz1.out
          go_wp2
          go_ret
          exact ⟨rfl, bwf⟩
      · obtain rfl : z = 1 := hz1.out
        go_wp2
        go_ret
        exact ⟨rfl, bwf⟩
    · obtain rfl : F = 0 := by rw [hF.out, decide_eq_false k7]; rfl
      obtain rfl : s = false := by rw [hs.out, decide_eq_false k7]; rfl
      by_cases k8 : max (c - i - u) 0 < th
      · have hA2 : A = (ev false (tg - (c - i - u)) ls 0).1 := by rw [hA.out, decide_eq_true k8]; rfl
        have hp2 : p = (ev false (tg - (c - i - u)) ls 0).2 := by rw [hp.out, decide_eq_true k8]; rfl
        have k9 : 0 < th := by omega
        have k10 : c - i - u < th := by omega
        clear k8 hF hs hA hp
        replace hA2 : Hid _ := hA2
        replace hp2 : Hid _ := hp2
        go_wp2_with fail
        rw [hT.out]
        refine (leastReaching_any (c - i - u) tg a cap ls hl HG false _ hrf (by omega) (by omega) (by omega) tg1).mono ?_
        rintro e wh ⟨rfl, bh⟩
        rw [← hT.out, ← hA2.out, ← hp2.out]
        replace HK := (bh.block K hKl).trans HK.out
        replace bwf : Below w.heap.size w wh := bwf.trans (bh.mono bwf.size)
        clear bh hrf
        have D0 : wh.cell? ⟨K, 0, none⟩ = some (.int .i64 0) := cell_of_row wh K 0 _ 38 (0, 0) HK
        have D1 : wh.cell? ⟨K, 1, none⟩ = some (.int .i64 A) := cell_of_row wh K 1 _ 38 (0, 0) HK
        have D2 : wh.cell? ⟨K, 2, none⟩ = some (.int .i64 z) := cell_of_row wh K 2 _ 38 (0, 0) HK
        clear HK
        rcases p with _ | _
        · obtain rfl : z = 0 := hz1.out
          go_wp2
          go_ret
          exact ⟨rfl, bwf⟩
        · obtain rfl : z = 2 := hz1.out
          go_wp2
          go_ret
          exact ⟨rfl, bwf⟩
      · obtain rfl : A = 0 := by rw [hA.out, decide_eq_false k8]; rfl
        obtain rfl : p = false := by rw [hp.out, decide_eq_false k8]; rfl
        obtain rfl : z = 0 := hz1.out
        replace HK := HK.out
        have D0 : wf.cell? ⟨K, 0, none⟩ = some (.int .i64 0) := cell_of_row wf K 0 _ 38 (0, 0) HK
        have D1 : wf.cell? ⟨K, 1, none⟩ = some (.int .i64 0) := cell_of_row wf K 1 _ 38 (0, 0) HK
        have D2 : wf.cell? ⟨K, 2, none⟩ = some (.int .i64 0) := cell_of_row wf K 2 _ 38 (0, 0) HK
        clear HK
        by_cases k10 : c - i - u < th
        · have k9 : th ≤ 0 := by omega
          clear k8 hF hs hA hp
          go_wp2
          go_ret
          exact ⟨rfl, bwf⟩
        · clear k8 hF hs hA hp
          go_wp2
          go_ret
          exact ⟨rfl, bwf⟩
end
end Go.Proofs.Qxb6617981a
