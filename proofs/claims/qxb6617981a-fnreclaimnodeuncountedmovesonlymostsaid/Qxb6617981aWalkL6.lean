/- Seat b6617981a: the law on two nodes: the walk. -/
import Derived.Test.Qxb6617981aWalkF
namespace Go.Proofs.Qxb6617981a
open Go.RowKit
set_option linter.unusedSimpArgs false
set_option linter.unusedVariables false

theorem Try.size35 : (Try.prog.info? 35).map (·.size) = some 3 := by kernel_rfl
theorem exec_st35 (f : Operand → Value) (dst : Option Tmp) (x y : Operand) (ty : TypeId) (pos : String) (after : Array Edge) (g : Option (Nat × Bool)) :
    execOp f ⟨dst, .store 35 x y, ty, pos, after, g⟩ = stS 35 (f x) (f y) := rfl
section
set_option maxRecDepth 100000 in
set_option maxHeartbeats 3200000 in
theorem law6_any (c i u1 u2 th tg : Int) (a : Option Addr) (cap : Nat) (ls : List (List Int)) (hl : ∀ l ∈ ls, l.length = 5) (hrg : ∀ l ∈ ls, Rg l) (w : World) (hr : RowL w a ls) (hz : ls.length ≤ 9223372036854775807)
    (c1 : c ≤ 9223372036854775807) (i1 : -9223372036854775808 ≤ i) (u11 : u1 ≤ 9223372036854775807) (u21 : u2 ≤ 9223372036854775807) (tg1 : tg ≤ 9223372036854775807) :
    Calls Try.prog 6 #[.int .i64 c, .int .i64 i, .int .i64 u1, .int .i64 u2, .int .i64 th, .int .i64 tg, .slice a ls.length cap] w fun e w' => e = .returned (.bool true) ∧ Below w.heap.size w w' := by
  go_enter Try.func6, Try.ntmps6
  go_wp2_with fail
  refine (zzBytes17_any c i u1 u2 th tg a ls.length cap _ hz).mono ?_
  rintro e w ⟨t, rfl, rfl⟩
  rcases t with _ | _
  · go_wp2
    go_ret
    exact ⟨rfl, Below.refl _ _⟩
  by_cases k1 : 4096 < ls.length
  · go_wp2
    go_ret
    exact ⟨rfl, Below.refl _ _⟩
  by_cases k2 : i < 0
  · go_wp2
    go_ret
    exact ⟨rfl, Below.refl _ _⟩
  by_cases k3 : c < i
  · go_wp2
    go_ret
    exact ⟨rfl, Below.refl _ _⟩
  by_cases k4 : u1 < 0
  · go_wp2
    go_ret
    exact ⟨rfl, Below.refl _ _⟩
  by_cases k5 : u2 < 0
  · go_wp2
    go_ret
    exact ⟨rfl, Below.refl _ _⟩
  by_cases k6 : tg < th
  · go_wp2
    go_ret
    exact ⟨rfl, Below.refl _ _⟩
  go_wp2_with fail
  refine (linesTotal_any a cap ls hl hrg _ hr (by omega)).mono ?_
  rintro e wa ⟨⟨T, b, rfl, hG⟩, ba⟩
  replace hG : Hid _ := hG
  rcases b with _ | _
  · go_wp2
    go_ret
    exact ⟨rfl, ba⟩
  go_wp2_with fail
  · have hG2 := hG.out trivial
    have HG : Hid (Good ls) := hG2.2
    obtain rfl : T = tot ls := hG2.1
    clear hG hG2
    refine (toPods_any a cap ls hl _ (rowL_below hr hl ba) (by omega)).mono ?_
    rintro e wb ⟨rfl, HP, bb, sb⟩
    have bwb : Below w.heap.size w wb := ba.trans (bb.mono ba.size)
    obtain ⟨N, hN⟩ : ∃ N, N = wa.heap.size := ⟨_, rfl⟩
    rw [← hN] at HP sb ⊢
    have HR : Hid (RowP wb (some ⟨N, 0, none⟩) ls) := Or.inr ⟨N, 0, rfl, HP⟩
    have hwN : w.heap.size ≤ N := by rw [hN]; exact ba.size
    clear hN HP bb ba hrg hr
    go_wp2_with fail
    obtain ⟨wx, hwx⟩ : ∃ wx, wx = (wb.alloc (Obj.cells #[Value.int IntKind.i64 c, Value.int IntKind.i64 i, Value.int IntKind.i64 u2] 35)).alloc (Obj.cells #[Value.int IntKind.i64 c, Value.int IntKind.i64 i, Value.int IntKind.i64 u1] 35) := ⟨_, rfl⟩
    have bx : Below wb.heap.size wb wx := by rw [hwx]; exact ((Below.refl _ _).alloc (Nat.le_refl _) _).alloc (by simp) _
    have sx : wb.heap.size + 2 = wx.heap.size := by rw [hwx]; simp
    have X1 : wx.heap[wb.heap.size + 1]? = some (Obj.cells #[Value.int IntKind.i64 c, Value.int IntKind.i64 i, Value.int IntKind.i64 u1] 35) := by rw [hwx]; exact heap_alloc2_new _ _ _
    rw [← hwx]
    have HRx : Hid (RowP wx (some ⟨N, 0, none⟩) ls) := rowP_below HR bx
    have bwx : Below w.heap.size w wx := bwb.trans (bx.mono bwb.size)
    obtain ⟨M, hM⟩ : ∃ M, M = wb.heap.size := ⟨_, rfl⟩
    rw [← hM] at sx X1 ⊢
    clear hwx bx HR bwb sb hM
    refine (reclaim_any c i u2 th tg _ ls.length ls HG k2 k3 (by omega) c1 (by omega) k6 tg1 _ HRx (by omega)).mono ?_
    rintro e wc ⟨rfl, bc⟩
    obtain ⟨F, hF⟩ : ∃ F, F = (evp (decide (c - i < th)) true (tg - (c - i)) ls).1 := ⟨_, rfl⟩
    obtain ⟨s, hs⟩ : ∃ s, s = (evp (decide (c - i < th)) true (tg - (c - i)) ls).2 := ⟨_, rfl⟩
    obtain ⟨A, hA⟩ : ∃ A, A = (evp (decide (max (c - i - u2) 0 < th)) false (tg - (c - i - u2)) ls).1 := ⟨_, rfl⟩
    obtain ⟨p, hp⟩ : ∃ p, p = (evp (decide (max (c - i - u2) 0 < th)) false (tg - (c - i - u2)) ls).2 := ⟨_, rfl⟩
    rw [← hF, ← hs, ← hA, ← hp]
    obtain ⟨z1, hz1⟩ : ∃ z1, z1 = ans s p := ⟨_, rfl⟩
    rw [← hz1]
    replace hF : Hid _ := hF
    replace hz1 : Hid _ := hz1
    replace hs : Hid _ := hs
    replace hA : Hid _ := hA
    replace hp : Hid _ := hp
    have HRc : Hid (RowP wc (some ⟨N, 0, none⟩) ls) := rowP_below HRx bc
    have bwc : Below w.heap.size w wc := bwx.trans (bc.mono bwx.size)
    have X1 : wc.heap[M + 1]? = some (Obj.cells #[Value.int IntKind.i64 c, Value.int IntKind.i64 i, Value.int IntKind.i64 u1] 35) := (bc.block _ (by omega)).trans X1
    have sc : M + 1 < wc.heap.size := by have := bc.size; omega
    have D0 : wc.cell? ⟨M + 1, 0, none⟩ = some (.int .i64 c) := cell_of_row wc (M + 1) 0 _ 35 (0, 0) X1
    have D1 : wc.cell? ⟨M + 1, 1, none⟩ = some (.int .i64 i) := cell_of_row wc (M + 1) 1 _ 35 (0, 0) X1
    have D2 : wc.cell? ⟨M + 1, 2, none⟩ = some (.int .i64 u1) := cell_of_row wc (M + 1) 2 _ 35 (0, 0) X1
    clear sx HRx bwx bc X1
    go_wp2_with fail
    obtain ⟨wx, hwx⟩ : ∃ wx, wx = wc.alloc (Obj.cells #[Value.int IntKind.i64 F, Value.int IntKind.i64 A, Value.int IntKind.i64 z1] 38) := ⟨_, rfl⟩
    have bx : Below wc.heap.size wc wx := by rw [hwx]; exact (Below.refl _ _).alloc (Nat.le_refl _) _
    have sx : wc.heap.size + 1 = wx.heap.size := by rw [hwx]; simp
    have X1 : wx.heap[wc.heap.size]? = some (Obj.cells #[Value.int IntKind.i64 F, Value.int IntKind.i64 A, Value.int IntKind.i64 z1] 38) := by rw [hwx]; exact heap_alloc_new _ _
    rw [← hwx]
    have HRx : Hid (RowP wx (some ⟨N, 0, none⟩) ls) := rowP_below HRc bx
    have bwx : Below w.heap.size w wx := bwc.trans (bx.mono bwc.size)
    obtain ⟨L, hL⟩ : ∃ L, L = wc.heap.size := ⟨_, rfl⟩
    rw [← hL] at sx X1 ⊢
    clear hwx bx HRc bwc sc D0 D1 D2 hL
    refine (reclaim_any c i u1 th tg _ ls.length ls HG k2 k3 (by omega) c1 (by omega) k6 tg1 _ HRx (by omega)).mono ?_
    rintro e wd ⟨rfl, bd⟩
    obtain ⟨B, hB⟩ : ∃ A, A = (evp (decide (max (c - i - u1) 0 < th)) false (tg - (c - i - u1)) ls).1 := ⟨_, rfl⟩
    obtain ⟨q, hq⟩ : ∃ p, p = (evp (decide (max (c - i - u1) 0 < th)) false (tg - (c - i - u1)) ls).2 := ⟨_, rfl⟩
    rw [← hF.out, ← hs.out, ← hB, ← hq]
    obtain ⟨z2, hz2⟩ : ∃ z1, z1 = ans s q := ⟨_, rfl⟩
    rw [← hz2]
    have HL := two_nodes HG.out.1 k2 k3 (v1 := u2) (v2 := u1) (by omega) (by omega) k6 hF.out hs.out hA.out hp.out hB hq
    have bwd : Below w.heap.size w wd := bwx.trans (bd.mono bwx.size)
    have sd : L < wd.heap.size := by have := bd.size; omega
    replace X1 := (bd.block L (by omega)).trans X1
    have D0 : wd.cell? ⟨L, 0, none⟩ = some (.int .i64 F) := cell_of_row wd L 0 _ 38 (0, 0) X1
    have D1 : wd.cell? ⟨L, 1, none⟩ = some (.int .i64 A) := cell_of_row wd L 1 _ 38 (0, 0) X1
    have D2 : wd.cell? ⟨L, 2, none⟩ = some (.int .i64 z1) := cell_of_row wd L 2 _ 38 (0, 0) X1
    clear sx HRx bwx bd X1 hF hs hA hp hB hq HG
    obtain ⟨l1, l2, l3, l4, l5, l6, l7⟩ := HL
    obtain ⟨T, hT⟩ : ∃ T, T = tot ls := ⟨_, rfl⟩
    rw [← hT] at l5 ⊢
    clear hT
    rcases s with _ | _
    · clear l3 l5
      rcases p with _ | _
      · clear l4
        obtain rfl : z1 = 0 := hz1.out
        clear hz1
        rcases q with _ | _
        · obtain rfl : z2 = 0 := hz2
          by_cases kk : c - i < th
          · have l8 : 1 ≤ F := (l6 kk).elim id (fun h => by cases h)
            clear l6 l7
            go_wp2
            go_ret
            exact ⟨rfl, bwd.alloc bwd.size _⟩
          · obtain rfl : F = 0 := (l7 (by omega)).1
            clear l6 l7
            go_wp2
            go_ret
            exact ⟨rfl, bwd.alloc bwd.size _⟩
        · obtain rfl : z2 = 2 := hz2
          by_cases kk : c - i < th
          · have l8 : 1 ≤ F := (l6 kk).elim id (fun h => by cases h)
            clear l6 l7
            go_wp2
            go_ret
            exact ⟨rfl, bwd.alloc bwd.size _⟩
          · obtain rfl : F = 0 := (l7 (by omega)).1
            clear l6 l7
            go_wp2
            go_ret
            exact ⟨rfl, bwd.alloc bwd.size _⟩
      · obtain rfl : q = true := l4 rfl
        clear l4
        obtain rfl : z1 = 2 := hz1.out
        clear hz1
        obtain rfl : z2 = 2 := hz2
        by_cases kk : c - i < th
        · have l8 : 1 ≤ F := (l6 kk).elim id (fun h => by cases h)
          clear l6 l7
          go_wp2
          go_ret
          exact ⟨rfl, bwd.alloc bwd.size _⟩
        · obtain rfl : F = 0 := (l7 (by omega)).1
          clear l6 l7
          go_wp2
          go_ret
          exact ⟨rfl, bwd.alloc bwd.size _⟩
    · obtain rfl : p = true := l3 rfl
      obtain rfl : q = true := l4 rfl
      obtain ⟨rfl, rfl, rfl⟩ := l5 rfl
      obtain rfl : z1 = 1 := hz1.out
      clear hz1 l3 l4 l5 l6 l1 l2
      obtain rfl : z2 = 1 := hz2
      by_cases kk : c - i < th
      · clear l7
        by_cases kf : 1 ≤ B
        · go_wp2
          go_ret
          exact ⟨rfl, bwd.alloc bwd.size _⟩
        · go_wp2
          go_ret
          exact ⟨rfl, bwd.alloc bwd.size _⟩
      · exact absurd (l7 (by omega)).2 (by simp)
  · have hG2 := hG.out trivial
    have HG : Hid (Good ls) := hG2.2
    obtain rfl : T = tot ls := hG2.1
    clear hG hG2
    refine (toPods_any a cap ls hl _ (rowL_below hr hl ba) (by omega)).mono ?_
    rintro e wb ⟨rfl, HP, bb, sb⟩
    have bwb : Below w.heap.size w wb := ba.trans (bb.mono ba.size)
    obtain ⟨N, hN⟩ : ∃ N, N = wa.heap.size := ⟨_, rfl⟩
    rw [← hN] at HP sb ⊢
    have HR : Hid (RowP wb (some ⟨N, 0, none⟩) ls) := Or.inr ⟨N, 0, rfl, HP⟩
    have hwN : w.heap.size ≤ N := by rw [hN]; exact ba.size
    clear hN HP bb ba hrg hr
    go_wp2_with fail
    obtain ⟨wx, hwx⟩ : ∃ wx, wx = (wb.alloc (Obj.cells #[Value.int IntKind.i64 c, Value.int IntKind.i64 i, Value.int IntKind.i64 u1] 35)).alloc (Obj.cells #[Value.int IntKind.i64 c, Value.int IntKind.i64 i, Value.int IntKind.i64 u2] 35) := ⟨_, rfl⟩
    have bx : Below wb.heap.size wb wx := by rw [hwx]; exact ((Below.refl _ _).alloc (Nat.le_refl _) _).alloc (by simp) _
    have sx : wb.heap.size + 2 = wx.heap.size := by rw [hwx]; simp
    have X1 : wx.heap[wb.heap.size + 1]? = some (Obj.cells #[Value.int IntKind.i64 c, Value.int IntKind.i64 i, Value.int IntKind.i64 u2] 35) := by rw [hwx]; exact heap_alloc2_new _ _ _
    rw [← hwx]
    have HRx : Hid (RowP wx (some ⟨N, 0, none⟩) ls) := rowP_below HR bx
    have bwx : Below w.heap.size w wx := bwb.trans (bx.mono bwb.size)
    obtain ⟨M, hM⟩ : ∃ M, M = wb.heap.size := ⟨_, rfl⟩
    rw [← hM] at sx X1 ⊢
    clear hwx bx HR bwb sb hM
    refine (reclaim_any c i u1 th tg _ ls.length ls HG k2 k3 (by omega) c1 (by omega) k6 tg1 _ HRx (by omega)).mono ?_
    rintro e wc ⟨rfl, bc⟩
    obtain ⟨F, hF⟩ : ∃ F, F = (evp (decide (c - i < th)) true (tg - (c - i)) ls).1 := ⟨_, rfl⟩
    obtain ⟨s, hs⟩ : ∃ s, s = (evp (decide (c - i < th)) true (tg - (c - i)) ls).2 := ⟨_, rfl⟩
    obtain ⟨A, hA⟩ : ∃ A, A = (evp (decide (max (c - i - u1) 0 < th)) false (tg - (c - i - u1)) ls).1 := ⟨_, rfl⟩
    obtain ⟨p, hp⟩ : ∃ p, p = (evp (decide (max (c - i - u1) 0 < th)) false (tg - (c - i - u1)) ls).2 := ⟨_, rfl⟩
    rw [← hF, ← hs, ← hA, ← hp]
    obtain ⟨z1, hz1⟩ : ∃ z1, z1 = ans s p := ⟨_, rfl⟩
    rw [← hz1]
    replace hF : Hid _ := hF
    replace hz1 : Hid _ := hz1
    replace hs : Hid _ := hs
    replace hA : Hid _ := hA
    replace hp : Hid _ := hp
    have HRc : Hid (RowP wc (some ⟨N, 0, none⟩) ls) := rowP_below HRx bc
    have bwc : Below w.heap.size w wc := bwx.trans (bc.mono bwx.size)
    have X1 : wc.heap[M + 1]? = some (Obj.cells #[Value.int IntKind.i64 c, Value.int IntKind.i64 i, Value.int IntKind.i64 u2] 35) := (bc.block _ (by omega)).trans X1
    have sc : M + 1 < wc.heap.size := by have := bc.size; omega
    have D0 : wc.cell? ⟨M + 1, 0, none⟩ = some (.int .i64 c) := cell_of_row wc (M + 1) 0 _ 35 (0, 0) X1
    have D1 : wc.cell? ⟨M + 1, 1, none⟩ = some (.int .i64 i) := cell_of_row wc (M + 1) 1 _ 35 (0, 0) X1
    have D2 : wc.cell? ⟨M + 1, 2, none⟩ = some (.int .i64 u2) := cell_of_row wc (M + 1) 2 _ 35 (0, 0) X1
    clear sx HRx bwx bc X1
    go_wp2_with fail
    obtain ⟨wx, hwx⟩ : ∃ wx, wx = wc.alloc (Obj.cells #[Value.int IntKind.i64 F, Value.int IntKind.i64 A, Value.int IntKind.i64 z1] 38) := ⟨_, rfl⟩
    have bx : Below wc.heap.size wc wx := by rw [hwx]; exact (Below.refl _ _).alloc (Nat.le_refl _) _
    have sx : wc.heap.size + 1 = wx.heap.size := by rw [hwx]; simp
    have X1 : wx.heap[wc.heap.size]? = some (Obj.cells #[Value.int IntKind.i64 F, Value.int IntKind.i64 A, Value.int IntKind.i64 z1] 38) := by rw [hwx]; exact heap_alloc_new _ _
    rw [← hwx]
    have HRx : Hid (RowP wx (some ⟨N, 0, none⟩) ls) := rowP_below HRc bx
    have bwx : Below w.heap.size w wx := bwc.trans (bx.mono bwc.size)
    obtain ⟨L, hL⟩ : ∃ L, L = wc.heap.size := ⟨_, rfl⟩
    rw [← hL] at sx X1 ⊢
    clear hwx bx HRc bwc sc D0 D1 D2 hL
    refine (reclaim_any c i u2 th tg _ ls.length ls HG k2 k3 (by omega) c1 (by omega) k6 tg1 _ HRx (by omega)).mono ?_
    rintro e wd ⟨rfl, bd⟩
    obtain ⟨B, hB⟩ : ∃ A, A = (evp (decide (max (c - i - u2) 0 < th)) false (tg - (c - i - u2)) ls).1 := ⟨_, rfl⟩
    obtain ⟨q, hq⟩ : ∃ p, p = (evp (decide (max (c - i - u2) 0 < th)) false (tg - (c - i - u2)) ls).2 := ⟨_, rfl⟩
    rw [← hF.out, ← hs.out, ← hB, ← hq]
    obtain ⟨z2, hz2⟩ : ∃ z1, z1 = ans s q := ⟨_, rfl⟩
    rw [← hz2]
    have HL := two_nodes HG.out.1 k2 k3 (v1 := u1) (v2 := u2) (by omega) (by omega) k6 hF.out hs.out hA.out hp.out hB hq
    have bwd : Below w.heap.size w wd := bwx.trans (bd.mono bwx.size)
    have sd : L < wd.heap.size := by have := bd.size; omega
    replace X1 := (bd.block L (by omega)).trans X1
    have D0 : wd.cell? ⟨L, 0, none⟩ = some (.int .i64 F) := cell_of_row wd L 0 _ 38 (0, 0) X1
    have D1 : wd.cell? ⟨L, 1, none⟩ = some (.int .i64 A) := cell_of_row wd L 1 _ 38 (0, 0) X1
    have D2 : wd.cell? ⟨L, 2, none⟩ = some (.int .i64 z1) := cell_of_row wd L 2 _ 38 (0, 0) X1
    clear sx HRx bwx bd X1 hF hs hA hp hB hq HG
    obtain ⟨l1, l2, l3, l4, l5, l6, l7⟩ := HL
    obtain ⟨T, hT⟩ : ∃ T, T = tot ls := ⟨_, rfl⟩
    rw [← hT] at l5 ⊢
    clear hT
    rcases s with _ | _
    · clear l3 l5
      rcases p with _ | _
      · clear l4
        obtain rfl : z1 = 0 := hz1.out
        clear hz1
        rcases q with _ | _
        · obtain rfl : z2 = 0 := hz2
          by_cases kk : c - i < th
          · have l8 : 1 ≤ F := (l6 kk).elim id (fun h => by cases h)
            clear l6 l7
            go_wp2
            go_ret
            exact ⟨rfl, bwd.alloc bwd.size _⟩
          · obtain rfl : F = 0 := (l7 (by omega)).1
            clear l6 l7
            go_wp2
            go_ret
            exact ⟨rfl, bwd.alloc bwd.size _⟩
        · obtain rfl : z2 = 2 := hz2
          by_cases kk : c - i < th
          · have l8 : 1 ≤ F := (l6 kk).elim id (fun h => by cases h)
            clear l6 l7
            go_wp2
            go_ret
            exact ⟨rfl, bwd.alloc bwd.size _⟩
          · obtain rfl : F = 0 := (l7 (by omega)).1
            clear l6 l7
            go_wp2
            go_ret
            exact ⟨rfl, bwd.alloc bwd.size _⟩
      · obtain rfl : q = true := l4 rfl
        clear l4
        obtain rfl : z1 = 2 := hz1.out
        clear hz1
        obtain rfl : z2 = 2 := hz2
        by_cases kk : c - i < th
        · have l8 : 1 ≤ F := (l6 kk).elim id (fun h => by cases h)
          clear l6 l7
          go_wp2
          go_ret
          exact ⟨rfl, bwd.alloc bwd.size _⟩
        · obtain rfl : F = 0 := (l7 (by omega)).1
          clear l6 l7
          go_wp2
          go_ret
          exact ⟨rfl, bwd.alloc bwd.size _⟩
    · obtain rfl : p = true := l3 rfl
      obtain rfl : q = true := l4 rfl
      obtain ⟨rfl, rfl, rfl⟩ := l5 rfl
      obtain rfl : z1 = 1 := hz1.out
      clear hz1 l3 l4 l5 l6 l1 l2
      obtain rfl : z2 = 1 := hz2
      by_cases kk : c - i < th
      · clear l7
        by_cases kf : 1 ≤ B
        · go_wp2
          go_ret
          exact ⟨rfl, bwd.alloc bwd.size _⟩
        · go_wp2
          go_ret
          exact ⟨rfl, bwd.alloc bwd.size _⟩
      · exact absurd (l7 (by omega)).2 (by simp)
end
end Go.Proofs.Qxb6617981a
