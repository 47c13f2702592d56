import Derived.Test.Qxb6617920aWalkB
import Derived.Test.Qxb6617920aWalkD
import Derived.Test.Qxb6617920aWalkF
import Derived.Test.Qxb6617920aWalkH
import Derived.Test.Qxb6617920aWalkI
import Derived.Test.Qxb6617920aWalkL
namespace Go.Proofs.Qxb6617920a
open Go.RowKit
set_option linter.unusedSimpArgs false
set_option linter.unusedVariables false

theorem rowAt_below {w w' : World} {a : Option Addr} {ms : List (List Int)} (h : RowAt w a ms) (hm : ∀ m ∈ ms, m.length = 15) (b : Below w.heap.size w w') : RowAt w' a ms := by
  rcases h with h | ⟨g, off, rfl, h⟩
  · exact Or.inl h
  · by_cases hz : 0 < ms.length
    · exact Or.inr ⟨g, off, rfl, rows_below b h (rows_lt h hm hz)⟩
    · exact Or.inl (List.eq_nil_of_length_eq_zero (by omega))
theorem intAt_below' {w w' : World} {a : Option Addr} {zs : List Int} (h : IntAt w a zs) (b : Below w.heap.size w w') : IntAt w' a zs := by
  rcases h with h | ⟨g, off, rfl, h⟩
  · exact Or.inl h
  · by_cases hz : 0 < zs.length
    · exact Or.inr ⟨g, off, rfl, rangeAt_below b h (intRange_lt h hz)⟩
    · exact Or.inl (List.eq_nil_of_length_eq_zero (by omega))

theorem intOwn_below {base : Nat} {w w' : World} {a : Option Addr} {zs : List Int} (h : IntOwn base w a zs) (b : Below w.heap.size w w') : IntOwn base w' a zs := by
  rcases h with h | ⟨g, hg, rfl, hb⟩
  · exact Or.inl h
  · have : g < w.heap.size := by
      rcases Nat.lt_or_ge g w.heap.size with h | h
      · exact h
      · rw [Array.getElem?_eq_none h] at hb; cases hb
    exact Or.inr ⟨g, hg, rfl, (b.block g this).trans hb⟩
theorem intOwn_lt {base : Nat} {w : World} {a : Option Addr} {zs : List Int} (h : IntOwn base w a zs) : ∀ x, a = some x → zs ≠ [] → x.block < w.heap.size := by
  rintro x rfl hz
  rcases h with h | ⟨g, hg, he, hb⟩
  · exact absurd h hz
  · simp at he
    subst he
    rcases Nat.lt_or_ge g w.heap.size with h | h
    · exact h
    · rw [Array.getElem?_eq_none h] at hb; cases hb

theorem intOwn_kb {base g : Nat} {w w' : World} {a : Option Addr} {zs : List Int} (h : IntOwn base w a zs) (hl : ∀ x, a = some x → zs ≠ [] → x.block < g) (k : Kb g w.heap.size w w') : IntOwn base w' a zs := by
  by_cases hz : zs = []
  · exact Or.inl hz
  · have hlt := intOwn_lt h
    rcases h with h | ⟨b, hb, rfl, hh⟩
    · exact Or.inl h
    · have := hl _ rfl hz
      exact Or.inr ⟨b, hb, rfl, (k.block b (hlt _ rfl hz) (by simp at this; omega)).trans hh⟩
theorem mc_two {m : List Int} (hm : m.length = 15) : (mc m)[2]? = some (.int .u64 (sq m)) := by
  obtain ⟨a0, a1, a2, a3, a4, a5, a6, a7, a8, a9, a10, a11, a12, a13, a14, rfl⟩ := list15 m hm
  rfl
theorem mc_set2 {m : List Int} (hm : m.length = 15) (s : Int) : (mc m).set 2 (.int .u64 s) = mc (m.set 2 s) := by
  obtain ⟨a0, a1, a2, a3, a4, a5, a6, a7, a8, a9, a10, a11, a12, a13, a14, rfl⟩ := list15 m hm
  rfl

theorem take_snoc {ms : List (List Int)} {k : Nat} (h : k < ms.length) : ms.take (k + 1) = ms.take k ++ [ms.getD k []] := by
  rw [List.take_succ_eq_append_getElem h]
  simp [List.getD_eq_getElem?_getD, h]

theorem all_snoc {ms : List (List Int)} {x : List Int} (h : ∀ m ∈ ms, m.length = 15) (hx : x.length = 15) : ∀ m ∈ ms ++ [x], m.length = 15 := fun m hm => by
  rcases List.mem_append.1 hm with h1 | h1
  · exact h m h1
  · simp at h1; subst h1; exact hx

section
attribute [local go_sem ↓] exec_ld34 exec_st34 exec_bs24 fold_ap24
set_option maxHeartbeats 3200000 in
set_option maxRecDepth 100000 in
theorem pushLaw_any (now seq : Int) (aL : Option Addr) (cL : Nat) (zs : List Int) (aQ : Option Addr) (cQ : Nat) (ms : List (List Int)) (m : List Int) (w : World) (hL : IntAt w aL zs) (hQ : RowAt w aQ ms) (hms : ∀ m ∈ ms, m.length = 15) (hm : m.length = 15)
    (hz : zs.length ≤ 9223372036854775807) (hq : ms.length ≤ 9223372036854775807) :
    Calls Try.prog 4 #[.int .i64 now, .int .u64 seq, .slice aL zs.length cL, .slice aQ ms.length cQ, .agg (mc m).toArray] w fun e w' => e = .returned (.bool true) ∧ Below w.heap.size w w' := by
  have hl0 : Sem.run Try.prog (ldS 34 (.pointer (some ⟨w.heap.size, 0, none⟩))) (w.alloc (.cells (mc m).toArray 34)) = .ok (.value (.agg (mc m).toArray)) (w.alloc (.cells (mc m).toArray 34)) := run_ld34 (range_of_mc (heap_alloc_new _ _)) hm
  go_enter Try.func4, Try.ntmps4
  go_wp2_with fail
  refine (zzBytesPush_any now seq aL aQ zs.length cL ms.length cQ (mc m).toArray _ hz hq).mono ?_
  rintro e wa ⟨t, rfl, ba0⟩
  have ba : Below w.heap.size w wa := ((Below.refl _ _).alloc (Nat.le_refl _) _).trans (ba0.mono (by simp))
  have hma : wa.heap[w.heap.size]? = some (.cells (mc m).toArray 34 (0, 0)) := (ba0.block w.heap.size (by simp)).trans (heap_alloc_new _ _)
  have sa : w.heap.size < wa.heap.size := by have := ba0.size; simp at this; omega
  clear ba0 hl0
  rcases t with _ | _
  · go_wp2
    go_ret
    exact ⟨rfl, ba⟩
  · by_cases k1 : 4096 < zs.length
    · clear hma
      go_wp2
      go_ret
      exact ⟨rfl, ba⟩
    · by_cases k2 : 4096 < ms.length
      · clear hma
        go_wp2
        go_ret
        exact ⟨rfl, ba⟩
      · have HMA : Hid (wa.heap[w.heap.size]? = some (.cells (mc m).toArray 34 (0, 0))) := hma
        clear hma
        go_wp2_with fail
        refine (isHeap_any aQ cQ ms hms wa (rowAt_below hQ hms ba) (by omega)).mono ?_
        rintro e wb ⟨rfl, bb0⟩
        have bb : Below w.heap.size w wb := ba.trans (bb0.mono (by omega))
        have sb : w.heap.size < wb.heap.size := by have := bb0.size; omega
        have HMB : Hid (wb.heap[w.heap.size]? = some (.cells (mc m).toArray 34 (0, 0))) := (bb0.block w.heap.size sa).trans HMA.out
        clear HMA bb0
        rcases hhp : heapB ms with _ | _
        · go_wp2
          go_ret
          exact ⟨rfl, bb⟩
        · have HHP : Hid (Heap ms) := (heap_iff ms).1 hhp
          clear hhp
          go_wp2_with fail
          refine (toSimQueue_any aQ cQ ms hms wb (rowAt_below hQ hms bb) (by omega)).mono ?_
          rintro e wc ⟨rfl, rc, tc, bc0, sc⟩
          have bc : Below w.heap.size w wc := bb.trans (bc0.mono (by omega))
          have HMC : Hid (wc.heap[w.heap.size]? = some (.cells (mc m).toArray 34 (0, 0))) := (bc0.block w.heap.size sb).trans HMB.out
          clear HMB bc0
          obtain ⟨q0, hq0⟩ : ∃ q0, q0 = wb.heap.size := ⟨_, rfl⟩
          rw [← hq0] at rc tc sc ⊢
          have hwq : w.heap.size < q0 := by omega
          clear tc hq0
          go_wp2_with fail
          refine (clone_any aL cL zs wc (intAt_below' hL bc) (by omega)).mono ?_
          rintro e wd ⟨al, cl, rfl, od, bd0⟩
          have bd : Below w.heap.size w wd := bc.trans (bd0.mono (by omega))
          have HMD : Hid (wd.heap[w.heap.size]? = some (.cells (mc m).toArray 34 (0, 0))) := (bd0.block w.heap.size (by omega)).trans HMC.out
          have rd := rows_below bd0 rc sc
          have sd : q0 < wd.heap.size := by have := bd0.size; omega
          clear HMC bd0 rc sc bc ba sa bb
          go_wp2_with fail
          refine (makeNetwork_any now seq _ _ _ _ _ _ wd).mono ?_
          rintro e we ⟨rfl, hwe⟩
          obtain ⟨g, hg⟩ : ∃ g, g = wd.heap.size := ⟨_, rfl⟩
          rw [← hg]
          have be0 : Below wd.heap.size wd we := by rw [hwe]; exact (Below.refl _ _).alloc (Nat.le_refl _) _
          have hge : we.heap[g]? = some (.cells (nwCells now (.slice (some ⟨q0, 0, none⟩) ms.length ms.length) seq (.slice al zs.length cl)) 55 (0, 0)) := by rw [hwe, hg]; exact heap_alloc_new _ _
          have se : g < we.heap.size := by rw [hwe, hg]; simp
          have hqg : q0 ≠ g := by omega
          have be : Below w.heap.size w we := bd.trans (be0.mono (by omega))
          have HME : Hid (we.heap[w.heap.size]? = some (.cells (mc m).toArray 34 (0, 0))) := (be0.block w.heap.size (by omega)).trans HMD.out
          have re := rows_below be0 rd sd
          have oe : IntOwn wc.heap.size we al zs := intOwn_below od be0
          have HLG : Hid (∀ x, al = some x → zs ≠ [] → x.block < g) := by rw [hg]; exact intOwn_lt od
          have hwg : w.heap.size < g := by omega
          have hqlg : q0 < g := by omega
          have hle := run_ld34 (range_of_mc HME.out) hm
          clear hwe hg bd HMD rd sd od be0 sb
          go_wp2_with fail
          refine (toSim_any m hm we).mono ?_
          rintro e wf ⟨rfl, bf0⟩
          have bf : Below w.heap.size w wf := be.trans (bf0.mono (by omega))
          have HMF : Hid (wf.heap[w.heap.size]? = some (.cells (mc m).toArray 34 (0, 0))) := (bf0.block w.heap.size (by omega)).trans HME.out
          have hgf := (bf0.block g se).trans hge
          have rf := rows_below bf0 re (by omega)
          have ofo : IntOwn wc.heap.size wf al zs := intOwn_below oe bf0
          have sf : g < wf.heap.size := by have := bf0.size; omega
          clear hle HME be re oe bf0 se hge
          go_wp2_with fail
          refine (zzPush_any g q0 ms m now seq _ hms hm wf hgf rf hqg (by omega)).mono ?_
          rintro e wg ⟨rfl, gq, cq, L, h1, h2, h3, h4, h5, h6, h7⟩
          have HSK : Hid (Kb g wf.heap.size wf wg) := h7
          have bg : Below w.heap.size w wg := bf.trans ⟨h7.os, h7.tape, h7.output, h7.size, fun k hk => h7.block k (by omega) (by omega)⟩
          have HMG : Hid (wg.heap[w.heap.size]? = some (.cells (mc m).toArray 34 (0, 0))) := (h7.block w.heap.size (by omega) (by omega)).trans HMF.out
          have og : IntOwn wc.heap.size wg al zs := intOwn_kb ofo HLG.out h7
          have sg : g < wg.heap.size := by have := h7.size; omega
          have sq2 : gq < wg.heap.size := rows_lt h4 h3 (by omega)
          have HG : Hid (wg.heap[g]? = _) := h1
          have HLL : Hid (L.length = _) := h2
          have HP : Hid (L.Perm _) := h5
          have HH : Hid (Heap L) := h6 HHP.out
          have hlg := run_ld34 (range_of_mc HMG.out) hm
          have hst := fun old ho => run_st34_row (w := wg.alloc (.cells old 34)) (m := m) (heap_alloc_new _ _) ho hm
          simp only [setRow_alloc_new] at hst
          have hm2 : (mc m)[2]? = some (.int .u64 (sq m)) := mc_two hm
          clear h1 h2 h5 h6 h7 HMF bf ofo sf rf hgf HHP
          have hmk := run_make34_0 ms.length (by omega)
          go_wp2_with fail
          clear hmk hst hm2 hlg
          rw [mc_set2 hm]
          obtain ⟨st, hst⟩ : ∃ st, st = m.set 2 (IntKind.u64.wrap (seq + 1)) := ⟨_, rfl⟩
          rw [← hst] at HP ⊢
          have hstl : st.length = 15 := by rw [hst]; simpa using hm
          clear hst
          obtain ⟨wh, hwh⟩ : ∃ wh, wh = (wg.alloc (.cells (mc st).toArray 34)).alloc (.cells (made15 (ms.length + 1)) 34) := ⟨_, rfl⟩
          rw [← hwh]
          have bh0 : Below wg.heap.size wg wh := by rw [hwh]; exact ((Below.refl _ _).alloc (Nat.le_refl _) _).alloc (by simp) _
          have HSH : Hid (wh.heap[wg.heap.size]? = some (.cells (mc st).toArray 34 (0, 0))) := by rw [hwh]; exact heap_alloc2_old _ _ _
          have hoh : wh.ownsRow wg.heap.size 34 15 (.slice (some ⟨wg.heap.size + 1, 0, none⟩) 0 (ms.length + 1)) 0 (flat (ms.take 0)) := by
            rw [hwh]
            have := World.ownsRow_made (base := wg.heap.size) (e := 34) (size := 15) (wg.alloc (.cells (mc st).toArray 34)) (made15 (ms.length + 1)) (ms.length + 1) (by simp) (by unfold maxLen; omega) (size_made15 _)
            simpa [flat] using this
          have szh : wh.heap.size = wg.heap.size + 2 := by rw [hwh]; simp
          have bh : Below w.heap.size w wh := bg.trans (bh0.mono (by omega))
          have HBH : Hid (Below (wg.heap.size + 1) wh wh) := Below.refl _ _
          clear hwh szh
          go_loopw [13, 14] (fun v i wr => ∃ k : Nat, i = .int .i64 k ∧ k ≤ ms.length ∧ v = .slice (some ⟨wg.heap.size + 1, 0, none⟩) k (ms.length + 1) ∧ wr.ownsRow wg.heap.size 34 15 (.slice (some ⟨wg.heap.size + 1, 0, none⟩) k (ms.length + 1)) k (flat (ms.take k)) ∧
              Below (wg.heap.size + 1) wh wr) (fun _ i _ => ms.length - (intOf i).toNat)
          case atStart => exact ⟨0, rfl, Nat.zero_le _, rfl, hoh, Below.refl _ _⟩
          case round =>
            clear hoh
            obtain ⟨k, rfl, hk, rfl, hown, hbr⟩ := hrel
            have br : Below w.heap.size w wr := bh.trans (hbr.mono (by omega))
            by_cases hlt : k < ms.length
            · rcases rowAt_below hQ hms br with rfl | ⟨b, off, rfl, hrow⟩
              · simp at hlt
              have hxl := getD_len15 hms hlt
              have h1 := run_ld34 (hrow k hlt) hxl
              have hbs := run_bs24 _ hxl
              obtain ⟨w1, happ, hown1, hb1⟩ := app24 (ms.getD k []) (fun m h => hms m (List.mem_of_mem_take h)) hxl (by simp; omega) hown (by omega)
              rw [← take_snoc hlt] at hown1
              have HO : Hid (w1.ownsRow _ _ _ _ _ _) := hown1
              obtain ⟨x, hx⟩ : ∃ x, x = ms.getD k [] := ⟨_, rfl⟩
              rw [← hx] at h1 hbs happ
              have hk2 : (k : Int) < (ms.length : Int) := by omega
              clear hx hrow hown1 hown br bh hxl
              go_wp2
              go_roundw
              case rel => exact ⟨k + 1, by go_num, by omega, rfl, HO.out, hbr.trans hb1⟩
              case measure => simp [intOf]; omega
            · obtain rfl : k = ms.length := by omega
              rw [List.take_of_length_le (Nat.le_refl _)] at hown
              have hsz2 : wg.heap.size + 1 < wr.heap.size := (hown.lt _ rfl).2
              have h1 := run_ld34 (range_of_mc ((hbr.block wg.heap.size (by omega)).trans HSH.out)) hstl
              have hbs := run_bs24 _ hstl
              obtain ⟨w1, happ, hown1, hb1⟩ := app24 st hms hstl rfl hown (by omega)
              have HO : Hid (w1.ownsRow _ _ _ _ _ _) := hown1
              clear hown hown1
              go_wp2_with fail
              clear happ hbs h1
              have bw : Below wg.heap.size wg w1 := bh0.trans ((hbr.trans hb1).mono (by omega))
              have bW : Below w.heap.size w w1 := bg.trans (bw.mono (by omega))
              have hgw := (bw.block g sg).trans HG.out
              have rw1 := rows_below bw h4 sq2
              have ow := intOwn_below og bw
              have HRO := rows_of_owns (ms := ms ++ [st]) (all_snoc hms hstl) (by simp) HO.out
              have HRW : Hid (Rows15 w1 (wg.heap.size + 1) 0 (ms ++ [st])) := HRO.1
              obtain ⟨c1, c2, c3, c4, cf⟩ := nw_cell hgw
              have sw : wg.heap.size + 1 < w1.heap.size := by have := hb1.size; omega
              have sgw : g < w1.heap.size := by omega
              clear bh0 hbr hb1 br bh HSH HO HRO HG og h4 cf hgw HMG HBH bg HSK hlt hk
              rw [← HLL.out] at c2 ⊢
              refine (queueOf_any g _ cq L h3 w1 c2 (Or.inr ⟨gq, 0, rfl, rw1⟩) (by have := HLL.out; omega)).mono ?_
              rintro e w2 ⟨rfl, r2, b2, s2⟩
              have b2W : Below w.heap.size w w2 := bW.trans (b2.mono (by omega))
              have d1 : w2.cell? ⟨g, 1, none⟩ = _ := (b2.cell (p := ⟨g, 1, none⟩) sgw).trans c1
              have d3 : w2.cell? ⟨g, 3, none⟩ = _ := (b2.cell (p := ⟨g, 3, none⟩) sgw).trans c3
              have d4 : w2.cell? ⟨g, 4, none⟩ = _ := (b2.cell (p := ⟨g, 4, none⟩) sgw).trans c4
              have o2 := intOwn_at (intOwn_below ow b2)
              have HR2 : Hid (Rows15 w2 (wg.heap.size + 1) 0 (ms ++ [st])) := rows_below b2 HRW.out sw
              clear c1 c2 c3 c4 rw1 ow HRW bw
              go_wp2_with fail
              refine (nwSeq_any g _ w2 d3).mono ?_
              rintro e w3 ⟨rfl, rfl⟩
              go_wp2_with fail
              refine (nwNow_any g _ w3 d1).mono ?_
              rintro e w2 ⟨rfl, rfl⟩
              go_wp2_with fail
              refine (nwLoads_any g _ w2 d4).mono ?_
              rintro e w3 ⟨rfl, rfl⟩
              go_wp2_with fail
              refine (equal_any al aL cl cL zs w3 o2 (intAt_below' hL b2W) (by omega)).mono ?_
              rintro e w4 ⟨rfl, b4⟩
              have r4 := rows_below b4 r2 s2
              have b4W : Below w.heap.size w w4 := b2W.trans (b4.mono (by have := b2.size; omega))
              have HR4 : Hid (Rows15 w4 (wg.heap.size + 1) 0 (ms ++ [st])) := rows_below b4 HR2.out (by have := b2.size; omega)
              have s4 : w1.heap.size < w4.heap.size := by have := b4.size; omega
              have hHL : heapB L = true := (heap_iff L).2 HH.out
              clear d1 d3 d4 o2 r2 b2W HR2 s2 HH
              go_wp2_with fail
              refine (isHeap_any (some ⟨w1.heap.size, 0, none⟩) L.length L h3 w4 (Or.inr ⟨_, 0, rfl, r4⟩) (by have := HLL.out; omega)).mono ?_
              rintro e w5 ⟨rfl, b5⟩
              rw [hHL]
              have r5 := rows_below b5 r4 s4
              have b5W : Below w.heap.size w w5 := b4W.trans (b5.mono (by omega))
              have R5 := rows_below b5 HR4.out (by omega)
              clear b4W HR4 r4
              go_wp2_with fail
              refine (same_any (some ⟨w1.heap.size, 0, none⟩) (some ⟨wg.heap.size + 1, 0, none⟩) L.length L.length L (ms ++ [st]) h3 (all_snoc hms hstl) HP.out w5 (Or.inr ⟨_, 0, rfl, r5⟩) (Or.inr ⟨_, 0, rfl, R5⟩) (by have := HLL.out; omega)).mono ?_
              rintro e w6 ⟨rfl, b6⟩
              go_wp2
              go_ret
              exact ⟨rfl, b5W.trans (b6.mono (by have := b5.size; omega))⟩
end
end Go.Proofs.Qxb6617920a
