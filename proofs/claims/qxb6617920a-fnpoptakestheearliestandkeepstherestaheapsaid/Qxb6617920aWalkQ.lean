import Derived.Test.Qxb6617920aWalkM
import Derived.Test.Qxb6617920aWalkP
namespace Go.Proofs.Qxb6617920a
open Go.RowKit
set_option linter.unusedSimpArgs false
set_option linter.unusedVariables false

theorem run_make34_1 (n : Nat) (h1 : 1 ≤ n) (hn : n ≤ 1000000) (w : World) : (Instr.makeSlice 24 (.int .i64 0) (.int .i64 ((n : Int) - 1))).run Try.prog w = .ok (.slice (some ⟨w.heap.size, 0, none⟩) 0 (n - 1)) (w.alloc (.cells (made15 (n - 1)) 34)) := by
  obtain ⟨i, hi, hz, hs, hb⟩ := info_parts Try.info34
  have := run_make (P := Try.prog) w 24 34 i _ Try.underlying24 hi hz .i64 .i64 0 ((n : Int) - 1) (by omega) (by omega) (by rw [hb]; omega) (by omega)
  rw [this]
  have e : ((n : Int) - 1).toNat = n - 1 := by omega
  simp [hs, made15, Value.cells, e]

theorem lt_of_blk {w : World} {k : Nat} {C : Array Value} {t : TypeId} (h : w.heap[k]? = some (.cells C t (0, 0))) : k < w.heap.size := by
  rcases Nat.lt_or_ge k w.heap.size with h' | h'
  · exact h'
  · rw [Array.getElem?_eq_none h'] at h; cases h
theorem own_block {base : Nat} {w : World} {a : Option Addr} {zs : List Int} (h : IntOwn base w a zs) (hz : zs ≠ []) : ∃ g, base ≤ g ∧ a = some ⟨g, 0, none⟩ ∧ w.heap[g]? = some (.cells (iv zs).toArray 2 (0, 0)) := by
  rcases h with h | h
  · exact absurd h hz
  · exact h

theorem tail_take_snoc {ms : List (List Int)} {k : Nat} (h0 : 0 < k) (h : k < ms.length) : (ms.take (k + 1)).tail = (ms.take k).tail ++ [ms.getD k []] := by
  rw [take_snoc h]
  cases hk : ms.take k with
  | nil =>
    have := congrArg List.length hk
    simp at this
    rcases this with rfl | rfl
    · omega
    · simp at h
  | cons a b => simp

theorem rows_kp {w w' : World} {b : Nat} {ms : List (List Int)} (h : Rows15 w b 0 ms) (k : True → w'.heap[b]? = w.heap[b]?) : Rows15 w' b 0 ms := fun i hi j v hv => by
  rw [World.cell?_of_block (w := w) (k trivial)]; exact h i hi j v hv

section
attribute [local go_sem ↓] exec_ld34 exec_st34 exec_bs24 fold_ap24 exec_eq34
set_option maxHeartbeats 6400000 in
set_option maxRecDepth 100000 in
theorem popLaw_any (now seq : Int) (aL : Option Addr) (cL : Nat) (zs : List Int) (aQ : Option Addr) (cQ : Nat) (ms : List (List Int)) (w : World) (hL : IntAt w aL zs) (hQ : RowAt w aQ ms) (hms : ∀ m ∈ ms, m.length = 15)
    (hz : zs.length ≤ 9223372036854775807) (hq : ms.length ≤ 9223372036854775807) :
    Calls Try.prog 3 #[.int .i64 now, .int .u64 seq, .slice aL zs.length cL, .slice aQ ms.length cQ] w fun e w' => e = .returned (.bool true) ∧ Below w.heap.size w w' := by
  go_enter Try.func3, Try.ntmps3
  go_wp2_with fail
  refine (zzBytesPop_any now seq aL aQ zs.length cL ms.length cQ _ hz hq).mono ?_
  rintro e w ⟨t, rfl, rfl⟩
  rcases t with _ | _
  · go_wp2
    go_ret
    exact ⟨rfl, Below.refl _ _⟩
  · by_cases k1 : 4096 < zs.length
    · go_wp2
      go_ret
      exact ⟨rfl, Below.refl _ _⟩
    · by_cases k2 : 4096 < ms.length
      · go_wp2
        go_ret
        exact ⟨rfl, Below.refl _ _⟩
      · by_cases k3 : ms.length = 0
        · have k3' : ((ms.length : Int) == 0) = true := by rw [k3]; rfl
          clear k3
          go_wp2
          go_ret
          exact ⟨rfl, Below.refl _ _⟩
        · have k3' : ((ms.length : Int) == 0) = false := beq_eq_false_iff_ne.2 (by omega)
          have k3n : 1 ≤ ms.length := by omega
          clear k3
          go_wp2_with fail
          refine (endsIn_any aQ cQ ms zs.length hms w hQ (by omega) (by omega)).mono ?_
          rintro e wa ⟨⟨t, rfl, hE⟩, rfl⟩
          rcases t with _ | _
          · go_wp2
            go_ret
            exact ⟨rfl, Below.refl _ _⟩
          · have HE : Hid (∀ i, i < ms.length → Ends (gt ms i) zs.length) := hE rfl
            clear hE
            go_wp2_with fail
            refine (isHeap_any aQ cQ ms hms _ hQ (by omega)).mono ?_
            rintro e wb ⟨rfl, bb⟩
            rcases hhp : heapB ms with _ | _
            · go_wp2
              go_ret
              exact ⟨rfl, bb⟩
            · have HHP : Hid (Heap ms) := (heap_iff ms).1 hhp
              clear hhp
              go_wp2_with fail
              refine (distinct_any aQ cQ ms hms wb (rowAt_below hQ hms bb) (by omega)).mono ?_
              rintro e wc ⟨⟨t, rfl, _⟩, bc0⟩
              have bc : Below wa.heap.size wa wc := bb.trans (bc0.mono bb.size)
              clear bc0 bb
              rcases t with _ | _
              · go_wp2
                go_ret
                exact ⟨rfl, bc⟩
              · go_wp2_with fail
                refine (toSimQueue_any aQ cQ ms hms wc (rowAt_below hQ hms bc) (by omega)).mono ?_
                rintro e wd ⟨rfl, rd, td, bd0, sd⟩
                have bd : Below wa.heap.size wa wd := bc.trans (bd0.mono bc.size)
                obtain ⟨q0, hq0⟩ : ∃ q0, q0 = wc.heap.size := ⟨_, rfl⟩
                rw [← hq0] at rd td sd ⊢
                have hwq : wa.heap.size ≤ q0 := by have := bc.size; omega
                clear hq0 bd0 bc
                go_wp2_with fail
                refine (clone_any aL cL zs wd (intAt_below' hL bd) (by omega)).mono ?_
                rintro e we ⟨al, cl, rfl, oe, be0⟩
                have be : Below wa.heap.size wa we := bd.trans (be0.mono (by omega))
                have re := rows_below be0 rd sd
                have te := there_below be0 td sd
                have se : q0 < we.heap.size := by have := be0.size; omega
                obtain ⟨gl, hgl, rfl, hlb⟩ := own_block oe (by have := HE.out 0 k3n; obtain ⟨_, h, _⟩ := this; intro e; rw [e] at h; simp at h; omega)
                have hqgl : q0 < gl := by omega
                have hgls : gl < we.heap.size := lt_of_blk hlb
                have HLB : Hid (we.heap[gl]? = _) := hlb
                clear be0 rd td sd bd oe hlb hgl
                go_wp2_with fail
                refine (makeNetwork_any now seq _ _ _ _ _ _ we).mono ?_
                rintro e wf ⟨rfl, hwf⟩
                obtain ⟨g, hg⟩ : ∃ g, g = we.heap.size := ⟨_, rfl⟩
                rw [← hg]
                have bf0 : Below we.heap.size we wf := by rw [hwf]; exact (Below.refl _ _).alloc (Nat.le_refl _) _
                have HGF : Hid (wf.heap[g]? = some (.cells (nwCells now (.slice (some ⟨q0, 0, none⟩) ms.length ms.length) seq (.slice (some ⟨gl, 0, none⟩) zs.length cl)) 55 (0, 0))) := by rw [hwf, hg]; exact heap_alloc_new _ _
                have sf : g < wf.heap.size := by rw [hwf, hg]; simp
                have bf : Below wa.heap.size wa wf := be.trans (bf0.mono (by omega))
                have rf := rows_below bf0 re se
                have tf := there_below bf0 te se
                have HLF : Hid (wf.heap[gl]? = some (.cells (iv zs).toArray 2 (0, 0))) := (bf0.block gl hgls).trans HLB.out
                have hglg : gl < g := by omega
                clear hwf bf0 re te se hgls HLB be hg
                go_wp2_with fail
                clear k3'
                go_loopw [10, 11] (fun bst i wr => ∃ k d : Nat, bst = .int .i64 0 ∧ i = .int .i64 k ∧ 1 ≤ k ∧ k ≤ ms.length ∧ wr = wf.drewN d) (fun _ i _ => ms.length - (intOf i).toNat)
                case atStart => exact ⟨1, 0, rfl, rfl, Nat.le_refl _, k3n, rfl⟩
                case round =>
                  obtain ⟨k, d, rfl, rfl, hk1, hkn, rfl⟩ := hrel
                  by_cases hlt : k < ms.length
                  · rcases rowAt_below hQ hms bf with rfl | ⟨b, off, rfl, hrow⟩
                    · simp at hlt
                    obtain ⟨c1, c2⟩ := mc_at (hrow k hlt) (getD_len15 hms hlt)
                    obtain ⟨d1, d2⟩ := mc_at (hrow 0 k3n) (getD_len15 hms k3n)
                    rw [Nat.zero_mul, Nat.add_zero] at d1 d2
                    have hle := (le_iff _ _).1 (heap_min HHP.out k k (Nat.le_refl _) hlt)
                    simp only [gt] at hle
                    have hk2 : (k : Int) < (ms.length : Int) := by omega
                    have h0n : (0 : Int) < (ms.length : Int) := by omega
                    obtain ⟨xa, hxa⟩ : ∃ z, z = at' (ms.getD k []) := ⟨_, rfl⟩
                    obtain ⟨xs, hxs⟩ : ∃ z, z = sq (ms.getD k []) := ⟨_, rfl⟩
                    obtain ⟨ya, hya⟩ : ∃ z, z = at' (ms.getD 0 []) := ⟨_, rfl⟩
                    obtain ⟨ys, hys⟩ : ∃ z, z = sq (ms.getD 0 []) := ⟨_, rfl⟩
                    rw [← hxa] at c1 hle
                    rw [← hxs] at c2 hle
                    rw [← hya] at d1 hle
                    rw [← hys] at d2 hle
                    clear hxa hxs hya hys hrow
                    have e1 : decide (xa < ya) = false := decide_eq_false (by omega)
                    rcases hle with hle | ⟨rfl, hle⟩
                    · have e2 : (xa == ya) = false := beq_eq_false_iff_ne.2 (by omega)
                      go_wp2_with fail
                      go_quiet (fail)
                      go_wp2
                      go_roundw
                      case rel => exact ⟨k + 1, _, rfl, by go_num, by omega, by omega, rfl⟩
                      case measure => simp [intOf]; omega
                    · have e3 : decide (xs < ys) = false := decide_eq_false (by omega)
                      go_wp2_with fail
                      go_quiet (fail)
                      go_wp2
                      go_roundw
                      case rel => exact ⟨k + 1, _, rfl, by go_num, by omega, by omega, rfl⟩
                      case measure => simp [intOf]; omega
                  · obtain rfl : k = ms.length := by omega
                    generalize hwg : wf.drewN d = wg
                    have bg : Below wa.heap.size wa wg := by rw [← hwg]; exact below_drewN bf _
                    have rg : Rows15 wg q0 0 ms := by rw [← hwg]; exact rf
                    have tg : wg.there q0 0 (ms.length * 15) := by rw [← hwg]; exact tf
                    have HGG : Hid (wg.heap[g]? = some (.cells (nwCells now (.slice (some ⟨q0, 0, none⟩) ms.length ms.length) seq (.slice (some ⟨gl, 0, none⟩) zs.length cl)) 55 (0, 0))) := by rw [← hwg]; exact HGF.out
                    have HLG : Hid (wg.heap[gl]? = some (.cells (iv zs).toArray 2 (0, 0))) := by rw [← hwg]; exact HLF.out
                    have sg : g < wg.heap.size := lt_of_blk HGG.out
                    clear hwg bf rf tf HGF HLF sf hlt hk1 hkn
                    rcases rowAt_below hQ hms bg with rfl | ⟨b, off, rfl, hrow⟩
                    · simp at k3n
                    have hxl : (gt ms 0).length = 15 := getD_len15 hms k3n
                    have hr0 : wg.rangeAt b off (mc (gt ms 0)) := by have := hrow 0 k3n; rwa [Nat.zero_mul, Nat.add_zero] at this
                    have hl0 := run_ld34 hr0 hxl
                    obtain ⟨x, hx⟩ : ∃ x, x = gt ms 0 := ⟨_, rfl⟩
                    rw [← hx] at hl0 hxl
                    have HX : Hid (x = gt ms 0) := hx
                    have hst := fun old ho => run_st34_row (w := wg.alloc (.cells old 34)) (m := x) (heap_alloc_new _ _) ho hxl
                    simp only [setRow_alloc_new] at hst
                    have hmk := run_make34_1 ms.length k3n (by omega)
                    have h0n : (0 : Int) < (ms.length : Int) := by omega
                    clear hr0 hx
                    go_wp2_with fail
                    clear hmk hst hl0
                    obtain ⟨wh, hwh⟩ : ∃ wh, wh = (wg.alloc (.cells (mc x).toArray 34)).alloc (.cells (made15 (ms.length - 1)) 34) := ⟨_, rfl⟩
                    rw [← hwh]
                    have bh0 : Below wg.heap.size wg wh := by rw [hwh]; exact ((Below.refl _ _).alloc (Nat.le_refl _) _).alloc (by simp) _
                    have HSH : Hid (wh.heap[wg.heap.size]? = some (.cells (mc x).toArray 34 (0, 0))) := by rw [hwh]; exact heap_alloc2_old _ _ _
                    have hoh : wh.ownsRow wg.heap.size 34 15 (.slice (some ⟨wg.heap.size + 1, 0, none⟩) 0 (ms.length - 1)) 0 (flat ((ms.take 0).tail)) := by
                      rw [hwh]
                      have := World.ownsRow_made (base := wg.heap.size) (e := 34) (size := 15) (wg.alloc (.cells (mc x).toArray 34)) (made15 (ms.length - 1)) (ms.length - 1) (by simp) (by unfold maxLen; omega) (size_made15 _)
                      simpa [flat] using this
                    clear hwh
                    go_loopw [13, 14] (fun v i wr => ∃ k : Nat, i = .int .i64 k ∧ k ≤ ms.length ∧ v = .slice (some ⟨wg.heap.size + 1, 0, none⟩) (k - 1) (ms.length - 1) ∧
                        wr.ownsRow wg.heap.size 34 15 (.slice (some ⟨wg.heap.size + 1, 0, none⟩) (k - 1) (ms.length - 1)) (k - 1) (flat ((ms.take k).tail)) ∧ Below (wg.heap.size + 1) wh wr) (fun _ i _ => ms.length - (intOf i).toNat)
                    case atStart => exact ⟨0, rfl, Nat.zero_le _, rfl, hoh, Below.refl _ _⟩
                    case round =>
                      clear hoh
                      obtain ⟨k, rfl, hk, rfl, hown, hbr⟩ := hrel
                      by_cases hlt : k < ms.length
                      · have hk2 : (k : Int) < (ms.length : Int) := by omega
                        by_cases hk0 : k = 0
                        · subst hk0
                          have HO : Hid (wr.ownsRow _ _ _ _ _ _) := hown
                          clear hown hrow
                          go_wp2
                          go_roundw
                          case rel =>
                            refine ⟨1, by go_num, by omega, rfl, ?_, hbr⟩
                            rw [show (ms.take 1).tail = (ms.take 0).tail from by cases ms <;> rfl]; exact HO.out
                          case measure => simp [intOf]; omega
                        · have hkb : ((k : Int) != 0) = true := by simpa using hk0
                          have hxk := getD_len15 hms hlt
                          have brr : Below wg.heap.size wg wr := bh0.trans (hbr.mono (by omega))
                          have h1 := run_ld34 (rangeAt_below brr (hrow k hlt) (rows_lt hrow hms k3n)) hxk
                          have hbs := run_bs24 _ hxk
                          obtain ⟨w1, happ, hown1, hb1⟩ := app24 (ms.getD k []) (fun m h => hms m (List.mem_of_mem_take (List.mem_of_mem_tail h))) hxk (by simp; omega) hown (by omega)
                          rw [← tail_take_snoc (by omega) hlt, show k - 1 + 1 = k from by omega] at hown1
                          rw [show k - 1 + 1 = k from by omega] at happ
                          have HO : Hid (w1.ownsRow _ _ _ _ _ _) := hown1
                          obtain ⟨y, hy⟩ : ∃ y, y = ms.getD k [] := ⟨_, rfl⟩
                          rw [← hy] at h1 hbs happ
                          clear hy hrow hown1 hown hxk
                          go_wp2
                          go_roundw
                          case rel => exact ⟨k + 1, by go_num, by omega, rfl, HO.out, hbr.trans hb1⟩
                          case measure => simp [intOf]; omega
                      · obtain rfl : k = ms.length := by omega
                        rw [List.take_of_length_le (Nat.le_refl _)] at hown
                        have hRT := (rows_of_owns (ms := ms.tail) (fun m h => hms m (List.mem_of_mem_tail h)) (by simp) hown).1
                        have brr : Below wg.heap.size wg wr := bh0.trans (hbr.mono (by omega))
                        have HSR : Hid (wr.heap[wg.heap.size]? = some (.cells (mc x).toArray 34 (0, 0))) := (hbr.block wg.heap.size (by omega)).trans HSH.out
                        have hsr : wg.heap.size + 1 < wr.heap.size := (hown.lt _ rfl).2
                        have brW : Below wa.heap.size wa wr := bg.trans (brr.mono (by have := bg.size; omega))
                        have rr := rows_below brr rg (by omega)
                        have tr := there_below brr tg (by omega)
                        have HGR : Hid (wr.heap[g]? = _) := (brr.block g sg).trans HGG.out
                        have HLR : Hid (wr.heap[gl]? = _) := (brr.block gl (by omega)).trans HLG.out
                        have hwag : wa.heap.size ≤ wg.heap.size := bg.size
                        clear hown hbr bh0 HSH brr rg tg HGG HLG bg hrow hlt hk
                        go_wp2_with fail
                        refine (clone_any aL cL zs wr (intAt_below' hL brW) (by omega)).mono ?_
                        rintro e wi ⟨al2, cl2, rfl, oi, bi0⟩
                        obtain ⟨gl2, hgl2, rfl, hlb2⟩ := own_block oi (by have := HE.out 0 k3n; obtain ⟨_, h, _⟩ := this; intro e; rw [e] at h; simp at h; omega)
                        have hgl2s : gl2 < wi.heap.size := lt_of_blk hlb2
                        have hEx := HE.out 0 k3n
                        rw [← HX.out] at hEx
                        obtain ⟨he1, he2, he3, he4⟩ := hEx
                        have hsx := (bi0.block wg.heap.size (by omega)).trans HSR.out
                        obtain ⟨p1, p2, p3⟩ := mc_ends (range_of_mc hsx) hxl
                        have hzl := loads_cell hlb2 he1 he2
                        have hzf := frozen_of_row wi gl2 (fr x).toNat _ 2 hlb2
                        obtain ⟨z, hz⟩ : ∃ z, z = zs.getD (fr x).toNat 0 := ⟨_, rfl⟩
                        rw [← hz] at hzl
                        have Hz : Hid (z = _) := hz
                        have HL2 : Hid (wi.heap[gl2]? = _) := hlb2
                        clear hz hlb2 oi hsx
                        go_wp2_with fail
                        go_big_region
                        obtain ⟨wj, hwj⟩ : ∃ wj, wj = (wi.setCell ⟨gl2, (fr x).toNat, none⟩ (.int .i64 (wrap64 (z - ld x)))).drew := ⟨_, rfl⟩
                        rw [← hwj]
                        have bj0 : Below wr.heap.size wr wj := by rw [hwj]; exact (bi0.setCell (p := ⟨gl2, (fr x).toNat, none⟩) hgl2 _).drew
                        have hlj : wj.heap[gl2]? = some (.cells (iv (subAt zs (fr x) (ld x))).toArray 2 (0, 0)) := by rw [hwj, Hz.out, ← IntWalk.i64_left]; exact loads_set HL2.out (fr x) (ld x)
                        have HSJ : Hid (wj.heap[wg.heap.size]? = some (.cells (mc x).toArray 34 (0, 0))) := (bj0.block wg.heap.size (by omega)).trans HSR.out
                        clear hwj p1 p2 p3 hzl hzf Hz HL2 hgl2s bi0 HSR
                        obtain ⟨p1, p2, p3⟩ := mc_ends (range_of_mc HSJ.out) hxl
                        have hzl := loads_cell hlj he3 (by rw [subAt_length]; exact he4)
                        have hzf := frozen_of_row wj gl2 (to' x).toNat _ 2 hlj
                        obtain ⟨z2, hz2⟩ : ∃ z2, z2 = (subAt zs (fr x) (ld x)).getD (to' x).toNat 0 := ⟨_, rfl⟩
                        rw [← hz2] at hzl
                        have Hz2 : Hid (z2 = _) := hz2
                        have HLJ : Hid (wj.heap[gl2]? = _) := hlj
                        clear hz2 hlj
                        go_wp2_with fail
                        go_big_region
                        obtain ⟨wk, hwk⟩ : ∃ wk, wk = (wj.setCell ⟨gl2, (to' x).toNat, none⟩ (.int .i64 (wrap64 (z2 - ld x)))).drew := ⟨_, rfl⟩
                        rw [← hwk]
                        have bk0 : Below wr.heap.size wr wk := by rw [hwk]; exact (bj0.setCell (p := ⟨gl2, (to' x).toNat, none⟩) hgl2 _).drew
                        have HLK : Hid (wk.heap[gl2]? = some (.cells (iv (subAt (subAt zs (fr x) (ld x)) (to' x) (ld x))).toArray 2 (0, 0))) := by show _ = _; rw [hwk, Hz2.out, ← IntWalk.i64_left]; exact loads_set HLJ.out (to' x) (ld x)
                        have HSK : Hid (wk.heap[wg.heap.size]? = some (.cells (mc x).toArray 34 (0, 0))) := (bk0.block wg.heap.size (by omega)).trans ((bj0.block wg.heap.size (by omega)).symm.trans HSJ.out)
                        clear hwk p1 p2 p3 hzl hzf Hz2 HLJ HSJ bj0
                        go_wp2_with fail
                        have eN : ms.length - 1 + 1 = ms.length := by omega
                        have hgk : wk.heap[g]? = some (.cells (nwCells now (.slice (some ⟨q0, 0, none⟩) (ms.length - 1 + 1) (ms.length - 1 + 1)) seq (.slice (some ⟨gl, 0, none⟩) zs.length cl)) 55 (0, 0)) := by rw [eN]; exact (bk0.block g (by omega)).trans HGR.out
                        have htk : wk.there q0 0 ((ms.length - 1 + 1) * 15) := by rw [eN]; exact there_below bk0 tr (by omega)
                        refine (zzPop_any g q0 gl ms (ms.length - 1) now seq zs cl eN.symm hms wk hgk (rows_below bk0 rr (by omega)) htk ((bk0.block gl (by omega)).trans HLR.out) (HE.out 0 k3n) (by omega) (by omega) (by omega) (by omega) (by omega)).mono ?_
                        rw [← HX.out]
                        rintro e wl ⟨rfl, HPP⟩
                        obtain ⟨L, a1, a2, a3, a4, a5, a6, a7, a8⟩ := HPP.out
                        rw [← HX.out] at a1 a7
                        have sk : wg.heap.size + 1 < wk.heap.size := by have := bk0.size; omega
                        have sgl2 : gl2 < wk.heap.size := lt_of_blk HLK.out
                        have HSL : Hid (wl.heap[wg.heap.size]? = some (.cells (mc x).toArray 34 (0, 0))) := (a8.block _ (by omega) (by omega) (by omega) (by omega)).trans HSK.out
                        have HLL2 : Hid (wl.heap[gl2]? = _) := (a8.block gl2 sgl2 (by omega) (by omega) (by omega)).trans HLK.out
                        have rTl : Rows15 wl (wg.heap.size + 1) 0 ms.tail := rows_kp (rows_below bk0 hRT hsr) (fun h => a8.block _ sk (by omega) (by omega) (by omega))
                        have blW : Below wa.heap.size wa wl := (brW.trans (bk0.mono (by omega))).trans ⟨a8.os, a8.tape, a8.output, a8.size, fun k hk => a8.block k (by omega) (by omega) (by omega) (by omega)⟩
                        have sl : wk.heap.size ≤ wl.heap.size := a8.size
                        have HLn : Hid (L.length = ms.length - 1) := a2
                        have HGL : Hid (wl.heap[g]? = _) := a1
                        have HLL : Hid (wl.heap[gl]? = _) := a7
                        have HPm : Hid (L.Perm ms.tail) := a5
                        have HHL : Hid (Heap L) := a6 HHP.out
                        clear HPP a1 a2 a5 a6 a7 a8 hgk htk eN bk0 HSK HLK hRT brW rr tr HGR HLR HHP
                        go_wp2_with fail
                        refine (fromSim_any x hxl wl).mono ?_
                        rintro e wm ⟨rfl, bm⟩
                        have hst := fun old ho => run_st34_row (w := wm.alloc (.cells old 34)) (m := x) (heap_alloc_new _ _) ho hxl
                        simp only [setRow_alloc_new] at hst
                        go_wp2_with fail
                        clear hst
                        obtain ⟨wn, hwn⟩ : ∃ wn, wn = wm.alloc (.cells (mc x).toArray 34) := ⟨_, rfl⟩
                        rw [← hwn]
                        have bn : Below wl.heap.size wl wn := by rw [hwn]; exact bm.alloc bm.size _
                        have HGot : Hid (wn.heap[wm.heap.size]? = some (.cells (mc x).toArray 34 (0, 0))) := by rw [hwn]; exact heap_alloc_new _ _
                        have sn : wm.heap.size < wn.heap.size := by rw [hwn]; simp
                        have slm := bm.size
                        have hgn := (bn.block g (by omega)).trans HGL.out
                        obtain ⟨c1, c2, c3, c4, cf⟩ := nw_cell hgn
                        rw [← HLn.out] at c2
                        clear hwn bm hgn cf
                        refine (queueOf_any g _ _ L a3 wn c2 (Or.inr ⟨q0, 0, rfl, rows_below bn a4 (by omega)⟩) (by have := HLn.out; omega)).mono ?_
                        rintro e wo ⟨rfl, ro, bo, so⟩
                        go_wp2_with fail
                        have bno : Below wn.heap.size wn wo := bo
                        have b1 : Below wl.heap.size wl wo := bn.trans (bno.mono (by omega))
                        have boW : Below wa.heap.size wa wo := blW.trans (b1.mono (by omega))
                        have hgo := (b1.block g (by omega)).trans HGL.out
                        have hmo := (bno.block wm.heap.size sn).trans HGot.out
                        have hso := (b1.block wg.heap.size (by omega)).trans HSL.out
                        have hlo := (b1.block gl (by omega)).trans HLL.out
                        have hl2o := (b1.block gl2 (by omega)).trans HLL2.out
                        have rTo := rows_below b1 rTl (by omega)
                        have sio : wl.heap.size ≤ wo.heap.size := b1.size
                        have sno : wn.heap.size ≤ wo.heap.size := bno.size
                        obtain ⟨d1, d2, d3, d4, df⟩ := nw_cell hgo
                        have S0 : (Sem.run Try.prog (ldS 34 (.pointer (some ⟨wm.heap.size, 0, none⟩))) wo.drew = .ok (.value (.agg (mc x).toArray)) wo.drew ∧ Sem.run Try.prog (ldS 34 (.pointer (some ⟨wg.heap.size, 0, none⟩))) wo.drew = .ok (.value (.agg (mc x).toArray)) wo.drew ∧ wo.drew.cell? ⟨wg.heap.size, 0, none⟩ = some (.int .i64 (at' x)) ∧ Below wo.heap.size wo wo.drew) := ⟨run_ld34 (w := wo.drew) (range_of_mc (w := wo.drew) hmo) hxl, run_ld34 (w := wo.drew) (range_of_mc (w := wo.drew) hso) hxl, (mc_at (range_of_mc (w := wo.drew) hso) hxl).1, (Below.refl _ _).drew⟩
                        have SK : ∀ W w1, (Sem.run Try.prog (ldS 34 (.pointer (some ⟨wm.heap.size, 0, none⟩))) W = .ok (.value (.agg (mc x).toArray)) W ∧ Sem.run Try.prog (ldS 34 (.pointer (some ⟨wg.heap.size, 0, none⟩))) W = .ok (.value (.agg (mc x).toArray)) W ∧ W.cell? ⟨wg.heap.size, 0, none⟩ = some (.int .i64 (at' x)) ∧ Below wo.heap.size wo W) → Below W.heap.size W w1 → (Sem.run Try.prog (ldS 34 (.pointer (some ⟨wm.heap.size, 0, none⟩))) w1 = .ok (.value (.agg (mc x).toArray)) w1 ∧ Sem.run Try.prog (ldS 34 (.pointer (some ⟨wg.heap.size, 0, none⟩))) w1 = .ok (.value (.agg (mc x).toArray)) w1 ∧ w1.cell? ⟨wg.heap.size, 0, none⟩ = some (.int .i64 (at' x)) ∧ Below wo.heap.size wo w1) := fun W w1 h b => by
                          have b2 : Below wo.heap.size wo w1 := h.2.2.2.trans (b.mono h.2.2.2.size)
                          have hm1 := (b2.block wm.heap.size (by omega)).trans hmo
                          have hs1 := (b2.block wg.heap.size (by omega)).trans hso
                          exact ⟨run_ld34 (range_of_mc hm1) hxl, run_ld34 (range_of_mc hs1) hxl, (mc_at (range_of_mc hs1) hxl).1, b2⟩
                        have H15 : ∀ W, (Sem.run Try.prog (ldS 34 (.pointer (some ⟨wm.heap.size, 0, none⟩))) W = .ok (.value (.agg (mc x).toArray)) W ∧ Sem.run Try.prog (ldS 34 (.pointer (some ⟨wg.heap.size, 0, none⟩))) W = .ok (.value (.agg (mc x).toArray)) W ∧ W.cell? ⟨wg.heap.size, 0, none⟩ = some (.int .i64 (at' x)) ∧ Below wo.heap.size wo W) → Calls Try.prog 15 #[.pointer (some ⟨g, 0, none⟩)] W fun e w' => e = .returned (.int .i64 (at' x)) ∧ w' = W := fun W h => nwNow_any g _ W ((h.2.2.2.cell (p := ⟨g, 1, none⟩) (by show g < _; omega)).trans d1)
                        have H16 : ∀ W, (Sem.run Try.prog (ldS 34 (.pointer (some ⟨wm.heap.size, 0, none⟩))) W = .ok (.value (.agg (mc x).toArray)) W ∧ Sem.run Try.prog (ldS 34 (.pointer (some ⟨wg.heap.size, 0, none⟩))) W = .ok (.value (.agg (mc x).toArray)) W ∧ W.cell? ⟨wg.heap.size, 0, none⟩ = some (.int .i64 (at' x)) ∧ Below wo.heap.size wo W) → Calls Try.prog 16 #[.pointer (some ⟨g, 0, none⟩)] W fun e w' => e = .returned (.int .u64 seq) ∧ w' = W := fun W h => nwSeq_any g _ W ((h.2.2.2.cell (p := ⟨g, 3, none⟩) (by show g < _; omega)).trans d3)
                        have H18 : ∀ W, (Sem.run Try.prog (ldS 34 (.pointer (some ⟨wm.heap.size, 0, none⟩))) W = .ok (.value (.agg (mc x).toArray)) W ∧ Sem.run Try.prog (ldS 34 (.pointer (some ⟨wg.heap.size, 0, none⟩))) W = .ok (.value (.agg (mc x).toArray)) W ∧ W.cell? ⟨wg.heap.size, 0, none⟩ = some (.int .i64 (at' x)) ∧ Below wo.heap.size wo W) → Calls Try.prog 18 #[.pointer (some ⟨g, 0, none⟩)] W fun e w' => e = .returned (.slice (some ⟨gl, 0, none⟩) zs.length cl) ∧ w' = W := fun W h => nwLoads_any g _ W ((h.2.2.2.cell (p := ⟨g, 4, none⟩) (by show g < _; omega)).trans d4)
                        have H17 : ∀ W, (Sem.run Try.prog (ldS 34 (.pointer (some ⟨wm.heap.size, 0, none⟩))) W = .ok (.value (.agg (mc x).toArray)) W ∧ Sem.run Try.prog (ldS 34 (.pointer (some ⟨wg.heap.size, 0, none⟩))) W = .ok (.value (.agg (mc x).toArray)) W ∧ W.cell? ⟨wg.heap.size, 0, none⟩ = some (.int .i64 (at' x)) ∧ Below wo.heap.size wo W) → Calls Try.prog 17 #[.slice (some ⟨gl, 0, none⟩) zs.length cl, .slice (some ⟨gl2, 0, none⟩) zs.length cl2] W fun e w' => e = .returned (.bool true) ∧ Below W.heap.size W w' := fun W h => by
                          have el : (subAt (subAt zs (fr x) (ld x)) (to' x) (ld x)).length = zs.length := by rw [subAt_length, subAt_length]
                          have := equal_any (some ⟨gl, 0, none⟩) (some ⟨gl2, 0, none⟩) cl cl2 (subAt (subAt zs (fr x) (ld x)) (to' x) (ld x)) W
                            (intOwn_at (base := 0) (Or.inr ⟨gl, Nat.zero_le _, rfl, (h.2.2.2.block gl (by omega)).trans hlo⟩)) (intOwn_at (base := 0) (Or.inr ⟨gl2, Nat.zero_le _, rfl, (h.2.2.2.block gl2 (by omega)).trans hl2o⟩)) (by omega)
                          rwa [el] at this
                        have H7 : ∀ W, (Sem.run Try.prog (ldS 34 (.pointer (some ⟨wm.heap.size, 0, none⟩))) W = .ok (.value (.agg (mc x).toArray)) W ∧ Sem.run Try.prog (ldS 34 (.pointer (some ⟨wg.heap.size, 0, none⟩))) W = .ok (.value (.agg (mc x).toArray)) W ∧ W.cell? ⟨wg.heap.size, 0, none⟩ = some (.int .i64 (at' x)) ∧ Below wo.heap.size wo W) → Calls Try.prog 7 #[.slice (some ⟨wn.heap.size, 0, none⟩) L.length L.length] W fun e w' => e = .returned (.bool true) ∧ Below W.heap.size W w' := fun W h => by
                          have := isHeap_any (some ⟨wn.heap.size, 0, none⟩) L.length L a3 W (Or.inr ⟨_, 0, rfl, rows_below h.2.2.2 ro so⟩) (by have := HLn.out; omega)
                          rwa [(heap_iff L).2 HHL.out] at this
                        have H19 : ∀ W, (Sem.run Try.prog (ldS 34 (.pointer (some ⟨wm.heap.size, 0, none⟩))) W = .ok (.value (.agg (mc x).toArray)) W ∧ Sem.run Try.prog (ldS 34 (.pointer (some ⟨wg.heap.size, 0, none⟩))) W = .ok (.value (.agg (mc x).toArray)) W ∧ W.cell? ⟨wg.heap.size, 0, none⟩ = some (.int .i64 (at' x)) ∧ Below wo.heap.size wo W) → Calls Try.prog 19 #[.slice (some ⟨wn.heap.size, 0, none⟩) L.length L.length, .slice (some ⟨wg.heap.size + 1, 0, none⟩) (ms.length - 1) (ms.length - 1)] W fun e w' => e = .returned (.bool true) ∧ Below W.heap.size W w' := fun W h => by
                          have := same_any (some ⟨wn.heap.size, 0, none⟩) (some ⟨wg.heap.size + 1, 0, none⟩) L.length (ms.length - 1) L ms.tail a3 (fun m h => hms m (List.mem_of_mem_tail h)) HPm.out W (Or.inr ⟨_, 0, rfl, rows_below h.2.2.2 ro so⟩) (Or.inr ⟨_, 0, rfl, rows_below h.2.2.2 rTo (by omega)⟩) (by have := HLn.out; omega)
                          rw [HLn.out] at this ⊢
                          exact this
                        have FIN : ∀ W, (Sem.run Try.prog (ldS 34 (.pointer (some ⟨wm.heap.size, 0, none⟩))) W = .ok (.value (.agg (mc x).toArray)) W ∧ Sem.run Try.prog (ldS 34 (.pointer (some ⟨wg.heap.size, 0, none⟩))) W = .ok (.value (.agg (mc x).toArray)) W ∧ W.cell? ⟨wg.heap.size, 0, none⟩ = some (.int .i64 (at' x)) ∧ Below wo.heap.size wo W) → Below wa.heap.size wa W := fun W h => boW.trans (h.2.2.2.mono (by have := boW.size; omega))
                        have heq := run_eqS x x hxl hxl
                        rw [show decide (x = x) = true from by simp] at heq
                        have U15 : Hid (∀ W, _) := H15
                        have U16 : Hid (∀ W, _) := H16
                        have U17 : Hid (∀ W, _) := H17
                        have U18 : Hid (∀ W, _) := H18
                        have U7 : Hid (∀ W, _) := H7
                        have U19 : Hid (∀ W, _) := H19
                        have UF : Hid (∀ W, _) := FIN
                        have UK : Hid (∀ W, _) := SK
                        have U0 : Hid (_ ∧ _) := S0
                        clear H15 H16 H17 H18 H7 H19 FIN SK S0 bno b1 boW hgo hmo hso hlo hl2o rTo d1 d2 d3 d4 df c1 c2 c3 c4 bn bo HGot HSL HLL HLL2 rTl blW ro so a3 a4 HGL HPm HHL
                        go_region_held3 (fun w' => (Sem.run Try.prog (ldS 34 (.pointer (some ⟨wm.heap.size, 0, none⟩))) w' = .ok (.value (.agg (mc x).toArray)) w' ∧ Sem.run Try.prog (ldS 34 (.pointer (some ⟨wg.heap.size, 0, none⟩))) w' = .ok (.value (.agg (mc x).toArray)) w' ∧ w'.cell? ⟨wg.heap.size, 0, none⟩ = some (.int .i64 (at' x)) ∧ Below wo.heap.size wo w'))
                          (first | assumption | exact U0.out | exact UK.out _ _ (by assumption) hbc)
                          (first
                            | (go_at_call 15; refine (U15.out _ (by assumption)).mono ?_; rintro e w1 ⟨rfl, rfl⟩)
                            | (go_at_call 16; refine (U16.out _ (by assumption)).mono ?_; rintro e w1 ⟨rfl, rfl⟩)
                            | (go_at_call 18; refine (U18.out _ (by assumption)).mono ?_; rintro e w1 ⟨rfl, rfl⟩)
                            | (go_at_call 17; refine (U17.out _ (by assumption)).mono ?_; rintro e w1 ⟨rfl, hbc⟩)
                            | (go_at_call 7; refine (U7.out _ (by assumption)).mono ?_; rintro e w1 ⟨rfl, hbc⟩)
                            | (go_at_call 19; refine (U19.out _ (by assumption)).mono ?_; rintro e w1 ⟨rfl, hbc⟩))
                        go_wp2
                        go_ret
                        exact ⟨rfl, UF.out _ (by assumption)⟩
end
end Go.Proofs.Qxb6617920a
