import Derived.Test.Qxb6617920aWalkG
import Derived.Test.Qxb6617920aWalkJ
import Derived.Test.Qxb6617920aBuild
import Derived.Test.Qxb6617920aHeap
import Derived.Deep.AppendLies
import Derived.Deep.RegionLawGrows
import Derived.Deep.DeepCutAuto
import Derived.BigRegion
namespace Go.Proofs.Qxb6617920a
open Go.RowKit
set_option linter.unusedSimpArgs false
set_option linter.unusedVariables false

/-- As Below, but for block g. -/
structure Kb (g B : Nat) (w w' : World) : Prop where
  os : w'.os = w.os
  tape : w'.tape = w.tape
  output : w'.output = w.output
  size : w.heap.size ≤ w'.heap.size
  block : ∀ k, k < B → k ≠ g → w'.heap[k]? = w.heap[k]?

theorem nw_cell {w : World} {g : Nat} {now seq : Int} {q loads : Value} (h : w.heap[g]? = some (.cells (nwCells now q seq loads) 55 (0, 0))) :
    w.cell? ⟨g, 1, none⟩ = some (.int .i64 now) ∧ w.cell? ⟨g, 2, none⟩ = some q ∧ w.cell? ⟨g, 3, none⟩ = some (.int .u64 seq) ∧ w.cell? ⟨g, 4, none⟩ = some loads ∧ ∀ j, w.frozen? ⟨g, j, none⟩ = false := by
  refine ⟨?_, ?_, ?_, ?_, fun j => frozen_of_row w g j _ 55 h⟩ <;> rw [cell_of_row w g _ _ 55 (0, 0) h] <;> rfl

theorem nw_set_seq {w : World} {g : Nat} {now seq : Int} {q loads : Value} (h : w.heap[g]? = some (.cells (nwCells now q seq loads) 55 (0, 0))) (s : Int) :
    (w.setCell ⟨g, 3, none⟩ (.int .u64 s)).heap[g]? = some (.cells (nwCells now q s loads) 55 (0, 0)) := heap_setCell_same w g 3 _ 55 _ h
theorem nw_set_queue {w : World} {g : Nat} {now seq : Int} {q loads : Value} (h : w.heap[g]? = some (.cells (nwCells now q seq loads) 55 (0, 0))) (q' : Value) :
    (w.setCell ⟨g, 2, none⟩ q').heap[g]? = some (.cells (nwCells now q' seq loads) 55 (0, 0)) := heap_setCell_same w g 2 _ 55 _ h

theorem rows_setCell_other {w : World} {b off g j : Nat} {v : Value} {ms : List (List Int)} (h : Rows15 w b off ms) (hne : b ≠ g) : Rows15 (w.setCell ⟨g, j, none⟩ v) b off ms := fun i hi k u hu => by
  rw [World.cell?_setCell_other _ _ _ _ (fun e => hne (congrArg Addr.block e).symm)]
  exact h i hi k u hu
theorem there_setCell_other {w : World} {b off g j n : Nat} {v : Value} (h : w.there b off n) (hne : b ≠ g) : (w.setCell ⟨g, j, none⟩ v).there b off n := fun k hk => by
  rw [World.cell?_setCell_other _ _ _ _ (fun e => hne (congrArg Addr.block e).symm), World.frozen?_setCell]
  exact h k hk

theorem Kb.of_below {g B : Nat} {w w' : World} (h : Below B w w') : Kb g B w w' := ⟨h.os, h.tape, h.output, h.size, fun k hk _ => h.block k hk⟩
theorem Kb.trans {g B : Nat} {a b c : World} (h : Kb g B a b) (k : Kb g B b c) : Kb g B a c :=
  ⟨k.os.trans h.os, k.tape.trans h.tape, k.output.trans h.output, Nat.le_trans h.size k.size, fun i hi hne => (k.block i hi hne).trans (h.block i hi hne)⟩
theorem Kb.setCell {g B j : Nat} {a w : World} (h : Kb g B a w) (v : Value) : Kb g B a (w.setCell ⟨g, j, none⟩ v) :=
  h.trans ⟨rfl, rfl, rfl, by simp [World.setCell], fun k _ hne => Below.heap_setCell _ _ _ _ hne⟩
theorem Kb.drewN {g B : Nat} {a w : World} (h : Kb g B a w) (n : Nat) : Kb g B a (w.drewN n) := h.trans ⟨rfl, rfl, rfl, Nat.le_refl _, fun _ _ _ => rfl⟩
theorem Kb.setCells {g B b o : Nat} {a w : World} (h : Kb g B a w) (hb : B ≤ b) (vs : List Value) : Kb g B a (w.setCells b o vs) := h.trans (.of_below (below_setCells hb _ _ _ (Below.refl _ _)))

/-- The world behind push's first three statements. -/
theorem push_start {w : World} {g q0 : Nat} {ms : List (List Int)} {now seq : Int} {loads : Value} (hg : w.heap[g]? = some (.cells (nwCells now (.slice (some ⟨q0, 0, none⟩) ms.length ms.length) seq loads) 55 (0, 0)))
    (hr : Rows15 w q0 0 ms) (hag : q0 ≠ g) (s' : Int) (cs : Array Value) :
    ∃ wA, wA = (w.setCell ⟨g, 3, none⟩ (.int .u64 s')).alloc (.cells cs 40) ∧ wA.heap[g]? = some (.cells (nwCells now (.slice (some ⟨q0, 0, none⟩) ms.length ms.length) s' loads) 55 (0, 0)) ∧
      wA.heap[w.heap.size]? = some (.cells cs 40 (0, 0)) ∧ wA.heap.size = w.heap.size + 1 ∧ Rows15 wA q0 0 ms ∧ Kb g w.heap.size w wA := by
  have hgl : g < w.heap.size := block_lt_of_cell (nw_cell hg).1
  have e : (w.setCell ⟨g, 3, none⟩ (.int .u64 s')).heap.size = w.heap.size := by simp [World.setCell]
  refine ⟨_, rfl, ?_, ?_, by simp [World.setCell], ?_, rfl, rfl, rfl, by simp [World.setCell], fun k hk hne => ?_⟩
  · rw [Below.heap_alloc _ _ _ (by omega)]; exact nw_set_seq hg s'
  · have := heap_alloc_new (w.setCell ⟨g, 3, none⟩ (.int .u64 s')) (.cells cs 40)
    rw [e] at this; exact this
  · exact fun i hi => World.rangeAt_alloc (rows_setCell_other hr hag i hi) _
  · rw [Below.heap_alloc _ _ _ (by omega)]; exact Below.heap_setCell _ _ _ _ hne

theorem range_of_mc {w : World} {g : Nat} {m : List Int} {t : TypeId} (h : w.heap[g]? = some (.cells (mc m).toArray t (0, 0))) : w.rangeAt g 0 (mc m) := fun j v hv => by
  rw [cell_of_row w g (0 + j) _ t (0, 0) h]; simpa using hv

/-- push's append: it always grows. -/
theorem push_append {wA : World} {q0 : Nat} {ms : List (List Int)} (m' : List Int) (hm : ∀ m ∈ ms, m.length = 15) (hml : m'.length = 15) (hr : Rows15 wA q0 0 ms) (hn : ms.length ≤ 1000000) :
    ∃ gq cq w1, Sem.run Try.prog (apV 30 30 #[.slice (some ⟨q0, 0, none⟩) ms.length ms.length, .slice (some ⟨wA.heap.size, 0, none⟩) 1 1]) (wA.alloc (.cells (mc m').toArray 40)).drew = .ok (.slice (some ⟨gq, 0, none⟩) (ms.length + 1) cq) w1 ∧
      Rows15 w1 gq 0 (ms ++ [m']) ∧ w1.there gq 0 ((ms.length + 1) * 15) ∧ Below (wA.heap.size + 1) (wA.alloc (.cells (mc m').toArray 40)) w1 ∧ wA.heap.size + 1 ≤ gq ∧ gq < w1.heap.size := by
  obtain ⟨i0, hi0, hz0, hz1, hz2⟩ := info_parts Try.info40
  have hrange := range_of_rows hm hr
  obtain ⟨v', w1, hrun, hown, hgrow⟩ := run_append_arg_grows (P := Try.prog) (wA.alloc (.cells (mc m').toArray 40)).drew 30 30 40 i0 _ 15 112 Try.underlying30 hi0 hz0 hz1 hz2 rfl (by omega) ⟨q0, 0, none⟩ ms.length ms.length (flat ms) (flat_length ms hm)
    (fun j u hu => by rw [Addr.add_mid]; exact World.rangeAt_alloc hrange (.cells (mc m').toArray 40) j u hu) ⟨wA.heap.size, 0, none⟩ 1 1 (mc m') (by rw [mc_length m' hml])
    (fun j u hu => by rw [Addr.add_mid]; exact range_of_mc (w := wA.alloc (.cells (mc m').toArray 40)) (heap_alloc_new _ _) j u hu) (by omega) (by unfold maxLen; omega) (by omega)
  obtain ⟨gq, cq, rfl, hb, hlt⟩ := hown.form (by omega)
  have hsz : (wA.alloc (.cells (mc m').toArray 40)).drew.heap.size = wA.heap.size + 1 := by simp
  have hall : ∀ m ∈ ms ++ [m'], m.length = 15 := fun m h => by
    rcases List.mem_append.1 h with h | h
    · exact hm m h
    · simp at h; subst h; exact hml
  have hown' : w1.ownsRow (wA.alloc (.cells (mc m').toArray 40)).drew.heap.size 40 15 (.slice (some ⟨gq, 0, none⟩) (ms.length + 1) cq) (ms.length + 1) (flat (ms ++ [m'])) := by
    have e : flat (ms ++ [m']) = flat ms ++ mc m' := by rw [flat_append]; simp [flat]
    rw [e]; exact hown
  obtain ⟨r1, r2⟩ := rows_of_owns hall (by simp) hown'
  refine ⟨gq, cq, w1, hrun, r1, r2, ⟨hgrow.os, hgrow.tape, hgrow.output, hgrow.size, fun k hk => hgrow.block k (by rw [hsz]; omega) (by simp)⟩, by omega, hlt⟩

/-- Two messages of a row are exchanged. -/
theorem rows_swp {W : World} {gq n i p : Nat} {L : List (List Int)} (hL : ∀ m ∈ L, m.length = 15) (hl : L.length = n) (h : Rows15 W gq 0 L) (ht : W.there gq 0 (n * 15)) (hi : i < n) (hp : p < n) (hne : i ≠ p) :
    Rows15 ((W.setCells gq (i * 15) (mc (gt L p))).setCells gq (p * 15) (mc (gt L i))) gq 0 (swp L i p) := by
  have e : ∀ k x, gt (L.set k x) k = if k < L.length then x else gt L k := fun k x => by
    simp only [gt, List.getD_eq_getElem?_getD]
    split <;> simp_all
  have hlp : (gt L p).length = 15 := getD_len15 hL (by omega)
  have hli : (gt L i).length = 15 := getD_len15 hL (by omega)
  have h1 := rows_set (i := i) (x := gt L p) (ms' := L.set i (gt L p)) h ht hi hlp (fun j hj => getD_len15 hL hj)
    (fun j hj hne => ⟨by simpa using hj, by simp [List.getD_eq_getElem?_getD, hne.symm]⟩) (fun hj => by simp at hj; simp [List.getD_eq_getElem?_getD, hj])
  have h2 := rows_set (i := p) (x := gt L i) (ms' := swp L i p) h1 (World.there_setCells ht _ _ _) hp hli
    (fun j hj => by
      by_cases e1 : j = i
      · subst e1; simp at hj; simpa [List.getD_eq_getElem?_getD, hj] using hlp
      · have : (L.set i (gt L p)).getD j [] = L.getD j [] := by simp [List.getD_eq_getElem?_getD, Ne.symm e1]
        rw [this]; exact getD_len15 hL (by simpa using hj))
    (fun j hj hne => ⟨by simpa [swp] using hj, by simp [swp, List.getD_eq_getElem?_getD, hne.symm]⟩) (fun hj => by rw [swp_length] at hj; exact swp_p L i p hj)
  simpa using h2

section
attribute [local go_sem ↓] exec_ld40 exec_st40 exec_bs30 fold_ap30
set_option maxHeartbeats 1600000 in
set_option maxRecDepth 100000 in
theorem push_any (g q0 : Nat) (ms : List (List Int)) (m : List Int) (now seq : Int) (loads : Value) (hms : ∀ m ∈ ms, m.length = 15) (hm : m.length = 15) (w : World)
    (hg : w.heap[g]? = some (.cells (nwCells now (.slice (some ⟨q0, 0, none⟩) ms.length ms.length) seq loads) 55 (0, 0))) (hr : Rows15 w q0 0 ms) (hag : q0 ≠ g) (hn : ms.length ≤ 1000000) :
    Calls Try.prog 27 #[.pointer (some ⟨g, 0, none⟩), .agg (mc m).toArray] w fun e w' => e = .returned (.tuple #[]) ∧ ∃ gq cq L, w'.heap[g]? = some (.cells (nwCells now (.slice (some ⟨gq, 0, none⟩) (ms.length + 1) cq) (IntKind.u64.wrap (seq + 1)) loads) 55 (0, 0)) ∧
      L.length = ms.length + 1 ∧ (∀ m ∈ L, m.length = 15) ∧ Rows15 w' gq 0 L ∧ L.Perm (ms ++ [m.set 2 (IntKind.u64.wrap (seq + 1))]) ∧ (Heap ms → Heap L) ∧ Kb g w.heap.size w w' := by
  obtain ⟨a0, a1, a2, a3, a4, a5, a6, a7, a8, a9, a10, a11, a12, a13, a14, rfl⟩ := list15 m hm
  obtain ⟨c1, c2, c3, c4, cf⟩ := nw_cell hg
  have hgl : g < w.heap.size := block_lt_of_cell c1
  obtain ⟨m', hm'⟩ : ∃ m', m' = [a0, a1, IntKind.u64.wrap (seq + 1), a3, a4, a5, a6, a7, a8, a9, a10, a11, a12, a13, a14] := ⟨_, rfl⟩
  have hml : m'.length = 15 := by rw [hm']; rfl
  obtain ⟨wA, hwA, hgA, hmA, hsA, hrA, hkA⟩ := push_start hg hr hag (IntKind.u64.wrap (seq + 1)) (mc m').toArray
  rw [hm'] at hwA
  have HW : Hid (wA = _) := hwA
  have HM : Hid (m' = _) := hm'
  have HA : Hid (wA.heap[g]? = _) := hgA
  have HB : Hid (wA.heap[w.heap.size]? = _) := hmA
  have HC : Hid (wA.heap.size = _) := hsA
  simp only [mc, KS, List.zipWith] at HW ⊢
  clear hwA hm' hgA hmA hsA
  go_enter Try.func27, Try.ntmps27
  go_wp2_with fail
  rw [← HW.out]
  clear HW c1 c2 c3 c4 cf hg hr
  obtain ⟨c1, c2, c3, c4, cf⟩ := nw_cell HA.out
  have hgA2 : g < wA.heap.size := block_lt_of_cell c1
  have hbs := run_bs30 m' hml
  have hld : Sem.run Try.prog (ldS 40 (.pointer (some ⟨w.heap.size, 0, none⟩))) wA.drew = .ok (.value (.agg (mc m').toArray)) wA.drew := run_ld40 (range_of_mc (w := wA) HB.out) hml
  obtain ⟨gq, cq, w1, happ, hr1, ht1, hb1, hgq, hgl1⟩ := push_append m' hms hml hrA hn
  have hgB : w1.heap[g]? = some (.cells (nwCells now (.slice (some ⟨q0, 0, none⟩) ms.length ms.length) (IntKind.u64.wrap (seq + 1)) loads) 55 (0, 0)) := by
    rw [hb1.block g (by omega), Below.heap_alloc _ _ _ hgA2]; exact HA.out
  obtain ⟨d1, d2, d3, d4, df⟩ := nw_cell hgB
  have df2 := df 2
  have cf2 := cf 2
  have HgB : Hid (w1.heap[g]? = _) := hgB
  clear hgB c1 c3 c4 cf d1 d3 d4 df
  go_big_region
  obtain ⟨wB, hwB⟩ : ∃ wB, wB = w1.setCell ⟨g, 2, none⟩ (.slice (some ⟨gq, 0, none⟩) (ms.length + 1) cq) := ⟨_, rfl⟩
  rw [← hwB]
  have hgC : wB.heap[g]? = some (.cells (nwCells now (.slice (some ⟨gq, 0, none⟩) (ms.length + 1) cq) (IntKind.u64.wrap (seq + 1)) loads) 55 (0, 0)) := by rw [hwB]; exact nw_set_queue HgB.out _
  have hne : gq ≠ g := by have := HC.out; omega
  have hr2 : Rows15 wB gq 0 (ms ++ [m']) := by rw [hwB]; exact rows_setCell_other hr1 hne
  have ht2 : wB.there gq 0 ((ms.length + 1) * 15) := by rw [hwB]; exact there_setCell_other ht1 hne
  have hgqw : w.heap.size ≤ gq := by have := HC.out; omega
  have hk2 : Kb g w.heap.size w wB := by
    rw [hwB]
    exact (hkA.trans (Kb.of_below (((Below.refl _ wA).alloc (Nat.le_refl _) (.cells (mc m').toArray 40)).trans (hb1.mono (by omega)) |>.mono (by have := HC.out; omega)))).setCell _
  have HG : Hid (wB.heap[g]? = _) := hgC
  obtain ⟨c1, e2, c3, c4, cf⟩ := nw_cell hgC
  clear hwB hgC c2 hgA2 hbs hld happ hr1 ht1 hb1 hgq hgl1 d2 df2 cf2 HgB hrA hkA HA HB HC c1 c3 c4 cf
  go_wp2
  go_loopw [4] (fun si wr => ∃ (i : Nat) (L : List (List Int)), si = .int .i64 i ∧ i ≤ ms.length ∧ Hid (L.length = ms.length + 1) ∧ (∀ m ∈ L, m.length = 15) ∧ Rows15 wr gq 0 L ∧ wr.there gq 0 ((ms.length + 1) * 15) ∧
      Hid (wr.heap[g]? = some (.cells (nwCells now (.slice (some ⟨gq, 0, none⟩) (ms.length + 1) cq) (IntKind.u64.wrap (seq + 1)) loads) 55 (0, 0))) ∧ Kb g w.heap.size w wr ∧ Hid (L.Perm (ms ++ [m'])) ∧ Hid (Heap ms → UpExc L i)) (fun si _ => (intOf si).toNat)
  case atStart =>
    refine ⟨ms.length, ms ++ [m'], rfl, Nat.le_refl _, by show _ = _; simp, ?_, hr2, ht2, HG.out, hk2, List.Perm.refl _, fun h => up_start ms m' h⟩
    intro x hx
    rcases List.mem_append.1 hx with h | h
    · exact hms x h
    · simp at h; subst h; exact hml
  case round =>
    clear e2 hr2 ht2 hk2 HG
    obtain ⟨i, L, rfl, hin, HL, hL, hrow, hth, HG, hkb, HP, HU⟩ := hrel
    obtain ⟨c1, c2, c3, c4, cf⟩ := nw_cell HG.out
    clear c1 c3 c4 cf
    by_cases hi0 : 0 < i
    · obtain ⟨p, hp⟩ : ∃ p, p = (i - 1) / 2 := ⟨_, rfl⟩
      have hli : i < L.length := by have := HL.out; omega
      have hlp : p < L.length := by omega
      have hxl : (gt L i).length = 15 := getD_len15 hL hli
      have hyl : (gt L p).length = 15 := getD_len15 hL hlp
      have hx0 : wr.rangeAt gq (i * 15) (mc (gt L i)) := by have := hrow i hli; rwa [Nat.zero_add] at this
      have hy0 : wr.rangeAt gq (p * 15) (mc (gt L p)) := by have := hrow p hlp; rwa [Nat.zero_add] at this
      obtain ⟨x, hx⟩ : ∃ x, x = gt L i := ⟨_, rfl⟩
      obtain ⟨y, hy⟩ : ∃ y, y = gt L p := ⟨_, rfl⟩
      rw [← hx] at hx0 hxl
      rw [← hy] at hy0 hyl
      have HX : Hid (x = gt L i) := hx
      have HY : Hid (y = gt L p) := hy
      have HPP : Hid (p = (i - 1) / 2) := hp
      have hi1 : (i : Int) < (ms.length : Int) + 1 := by omega
      have hi2 : (0 : Int) < (i : Int) := by omega
      have hp1 : (p : Int) < (ms.length : Int) + 1 := by omega
      have HW2 : Hid (((i : Int) - 1) / 2 = (p : Int)) := by show _ = _; omega
      have hpi : p < i := by omega
      clear hx hy hp
      go_wp2_with fail
      rw [HW2.out]
      clear HW2
      go_quiet ((go_at_call 29; exact Calls.quiet_of (before_any gq (i * 15) gq (p * 15) x y hxl hyl _ hx0 hy0)))
      rcases hbf : bef x y with _ | _
      · go_wp2
        go_end0
        refine ⟨rfl, gq, cq, L, HG.out, HL.out, hL, hrow, ?_, fun h => up_stop (HU.out h) (by rw [← HPP.out, ← HX.out, ← HY.out]; exact hbf), hkb.drewN _⟩
        rw [HM.out] at HP
        exact HP.out
      · go_wp2_with fail
        generalize hwq : wr.drewN _ = wq
        have e1 : wq.cell? ⟨g, 2, none⟩ = some (.slice (some ⟨gq, 0, none⟩) (ms.length + 1) cq) := by rw [← hwq]; exact c2
        have hxq : wq.drew.rangeAt gq (i * 15) (mc x) := by rw [← hwq]; exact hx0
        have hyq : wq.drew.rangeAt gq (p * 15) (mc y) := by rw [← hwq]; exact hy0
        have htq : wq.drew.there gq 0 ((ms.length + 1) * 15) := by rw [← hwq]; exact hth
        have HRQ : Hid (Rows15 wq.drew gq 0 L) := by rw [← hwq]; exact hrow
        have HGQ : Hid (wq.heap[g]? = some (.cells (nwCells now (.slice (some ⟨gq, 0, none⟩) (ms.length + 1) cq) (IntKind.u64.wrap (seq + 1)) loads) 55 (0, 0))) := by rw [← hwq]; exact HG.out
        have hkq : Kb g w.heap.size w wq.drew := by rw [← hwq]; exact (hkb.drewN _).drewN 1
        have l1 := run_ld40 hxq hxl
        have l2 := run_ld40 hyq hyl
        have s1 := run_st40 (m := y) (there_sub htq (o' := i * 15) (n' := 15) (by omega) (by omega)) hyl
        have s2 := run_st40 (m := x) (World.there_setCells (there_sub htq (o' := p * 15) (n' := 15) (by omega) (by omega)) gq (i * 15) (mc y)) hxl
        clear hxq hyq c2 hx0 hy0 hwq hrow hth HG hkb
        go_big_region
        go_wp2
        go_roundw
        case rel =>
          refine ⟨p, swp L i p, rfl, by omega, by show _ = _; rw [swp_length]; exact HL.out, swp_len15 L i p hli hlp hL, ?_, World.there_setCells (World.there_setCells htq _ _ _) _ _ _, ?_, (hkq.setCells hgqw _).setCells hgqw _, (swp_perm L i p hli hlp).trans HP.out, fun h => ?_⟩
          · have := rows_swp (i := i) (p := p) hL HL.out HRQ.out htq (by omega) (by omega) (by omega)
            rw [HX.out, HY.out]; exact this
          · show _ = _
            have b := below_setCells (B := gq) (a := wq.drew) (g := gq) (Nat.le_refl _) (mc x) (p * 15) _ (below_setCells (Nat.le_refl _) (mc y) (i * 15) _ (Below.refl _ _))
            rw [b.block g (by omega)]; exact HGQ.out
          · have := up_step (HU.out h) hi0 hli (by rw [← HPP.out, ← HX.out, ← HY.out]; exact hbf)
            rwa [← HPP.out] at this
        case measure => simp [intOf]; omega
    · go_wp2
      go_end0
      obtain rfl : i = 0 := by omega
      refine ⟨rfl, gq, cq, L, HG.out, HL.out, hL, hrow, ?_, fun h => up_root (HU.out h), hkb⟩
      rw [HM.out] at HP
      exact HP.out
end
end Go.Proofs.Qxb6617920a
