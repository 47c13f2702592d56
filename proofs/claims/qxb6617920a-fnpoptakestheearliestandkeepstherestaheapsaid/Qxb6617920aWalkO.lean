import Derived.Test.Qxb6617920aWalkF
import Derived.Test.Qxb6617920aWalkK
import Derived.Test.Qxb6617920aWalkN
namespace Go.Proofs.Qxb6617920a
open Go.RowKit
set_option linter.unusedSimpArgs false
set_option linter.unusedVariables false

/-- As Below, but for blocks g, q, l. -/
structure Kp (g q l B : Nat) (w w' : World) : Prop where
  os : w'.os = w.os
  tape : w'.tape = w.tape
  output : w'.output = w.output
  size : w.heap.size ≤ w'.heap.size
  block : ∀ k, k < B → k ≠ g → k ≠ q → k ≠ l → w'.heap[k]? = w.heap[k]?
theorem Kp.of_below {g q l B : Nat} {w w' : World} (h : Below B w w') : Kp g q l B w w' := ⟨h.os, h.tape, h.output, h.size, fun k hk _ _ _ => h.block k hk⟩
theorem Kp.trans {g q l B : Nat} {a b c : World} (h : Kp g q l B a b) (k : Kp g q l B b c) : Kp g q l B a c :=
  ⟨k.os.trans h.os, k.tape.trans h.tape, k.output.trans h.output, Nat.le_trans h.size k.size, fun i hi h1 h2 h3 => (k.block i hi h1 h2 h3).trans (h.block i hi h1 h2 h3)⟩
theorem heap_setCells_other (g : Nat) : ∀ (vs : List Value) (o : Nat) (w : World) (k : Nat), k ≠ g → (w.setCells g o vs).heap[k]? = w.heap[k]?
  | [], _, _, _, _ => rfl
  | v :: r, o, w, k, h => by rw [World.setCells, heap_setCells_other g r (o + 1) _ k h]; exact Below.heap_setCell _ _ _ _ h
theorem setCells_rest (g : Nat) : ∀ (vs : List Value) (o : Nat) (w : World), (w.setCells g o vs).os = w.os ∧ (w.setCells g o vs).tape = w.tape ∧ (w.setCells g o vs).output = w.output
  | [], _, _ => ⟨rfl, rfl, rfl⟩
  | v :: r, o, w => by rw [World.setCells]; exact setCells_rest g r (o + 1) _
theorem Kp.setCells {g q l B o : Nat} {a w : World} (h : Kp g q l B a w) (vs : List Value) : Kp g q l B a (w.setCells q o vs) :=
  h.trans ⟨(setCells_rest q vs o w).1, (setCells_rest q vs o w).2.1, (setCells_rest q vs o w).2.2, by rw [size_setCells]; exact Nat.le_refl _, fun k _ _ hq _ => heap_setCells_other q vs o w k hq⟩
theorem Kp.setG {g q l B j : Nat} {a w : World} (h : Kp g q l B a w) (v : Value) : Kp g q l B a (w.setCell ⟨g, j, none⟩ v) :=
  h.trans ⟨rfl, rfl, rfl, by simp [World.setCell], fun k _ hg _ _ => Below.heap_setCell _ _ _ _ hg⟩
theorem Kp.setL {g q l B j : Nat} {a w : World} (h : Kp g q l B a w) (v : Value) : Kp g q l B a (w.setCell ⟨l, j, none⟩ v) :=
  h.trans ⟨rfl, rfl, rfl, by simp [World.setCell], fun k _ _ _ hl => Below.heap_setCell _ _ _ _ hl⟩
theorem Kp.drewN {g q l B : Nat} {a w : World} (h : Kp g q l B a w) (n : Nat) : Kp g q l B a (w.drewN n) := h.trans ⟨rfl, rfl, rfl, Nat.le_refl _, fun _ _ _ _ _ => rfl⟩

/-- What pop leaves. -/
def PopPost (g q0 gl : Nat) (ms : List (List Int)) (N : Nat) (seq : Int) (zs : List Int) (cl : Nat) (w w' : World) : Prop :=
  ∃ L, w'.heap[g]? = some (.cells (nwCells (at' (gt ms 0)) (.slice (some ⟨q0, 0, none⟩) N (N + 1)) seq (.slice (some ⟨gl, 0, none⟩) zs.length cl)) 55 (0, 0)) ∧
    L.length = N ∧ (∀ m ∈ L, m.length = 15) ∧ Rows15 w' q0 0 L ∧ L.Perm ms.tail ∧ (Heap ms → Heap L) ∧
    w'.heap[gl]? = some (.cells (iv (subAt (subAt zs (fr (gt ms 0)) (ld (gt ms 0))) (to' (gt ms 0)) (ld (gt ms 0)))).toArray 2 (0, 0)) ∧ Kp g q0 gl w.heap.size w w'

theorem there_lt {w : World} {b o n : Nat} (h : w.there b o n) (hn : 0 < n) : b < w.heap.size := by
  obtain ⟨v, hv⟩ := Option.isSome_iff_exists.1 (h 0 hn).1
  exact block_lt_of_cell hv

/-- The world at the head of pop's loop. -/
theorem pop_start {w : World} {g q0 gl N : Nat} {ms : List (List Int)} {C G : Array Value} {x y : List Int} (hg : w.heap[g]? = some (.cells C 55 (0, 0))) (hr : Rows15 w q0 0 ms) (ht : w.there q0 0 ((N + 1) * 15)) (hgl : w.heap[gl]? = some (.cells G 2 (0, 0)))
    (h1 : q0 ≠ g) (h3 : gl ≠ q0) (hN : ms.length = N + 1) (hms : ∀ m ∈ ms, m.length = 15) (hyl : y.length = 15) (Z : Array Value) :
    ∃ wA, wA = ((w.alloc (.cells Z 40)).alloc (.cells (mc x).toArray 40)).setCells q0 0 (mc y) ∧ wA.heap[g]? = some (.cells C 55 (0, 0)) ∧ wA.heap[gl]? = some (.cells G 2 (0, 0)) ∧ wA.heap[w.heap.size]? = some (.cells Z 40 (0, 0)) ∧
      wA.heap[w.heap.size + 1]? = some (.cells (mc x).toArray 40 (0, 0)) ∧ Rows15 wA q0 0 ((ms.set 0 y).take N) ∧ wA.there q0 0 ((N + 1) * 15) ∧ Kp g q0 gl w.heap.size w wA ∧ w.heap.size + 2 ≤ wA.heap.size ∧ q0 < w.heap.size := by
  have hq : q0 < w.heap.size := there_lt ht (by omega)
  have lt : ∀ {k t C}, w.heap[k]? = some (.cells C t (0, 0)) → k < w.heap.size := fun {k t C} h => by
    rcases Nat.lt_or_ge k w.heap.size with h' | h'
    · exact h'
    · rw [Array.getElem?_eq_none h'] at h; cases h
  have old : ∀ k, k < w.heap.size → k ≠ q0 → (((w.alloc (.cells Z 40)).alloc (.cells (mc x).toArray 40)).setCells q0 0 (mc y)).heap[k]? = w.heap[k]? := fun k hk hne => by
    rw [heap_setCells_other _ _ _ _ _ hne, Below.heap_alloc _ _ _ (by simp; omega), Below.heap_alloc _ _ _ hk]
  refine ⟨_, rfl, ?_, ?_, ?_, ?_, ?_, ?_, ?_, ?_, hq⟩
  · rw [old g (lt hg) (Ne.symm h1)]; exact hg
  · rw [old gl (lt hgl) h3]; exact hgl
  · rw [heap_setCells_other _ _ _ _ _ (by omega)]; exact heap_alloc2_old _ _ _
  · rw [heap_setCells_other _ _ _ _ _ (by omega)]; exact heap_alloc2_new _ _ _
  · have hr2 : Rows15 ((w.alloc (.cells Z 40)).alloc (.cells (mc x).toArray 40)) q0 0 ms := fun i hi => World.rangeAt_alloc (World.rangeAt_alloc (hr i hi) _) _
    have := rows_set (i := 0) (x := y) (ms' := (ms.set 0 y).take N) hr2 (World.there_alloc (World.there_alloc ht _) _) (by omega) hyl (fun j hj => getD_len15 hms hj)
      (fun j hj hne => by
        simp at hj
        exact ⟨by omega, by simp [List.getD_eq_getElem?_getD, show j < N by omega, hne.symm]⟩)
      (fun hj => by
        simp at hj
        simp [List.getD_eq_getElem?_getD, show 0 < N by omega, show 0 < ms.length by omega])
    simpa using this
  · exact World.there_setCells (World.there_alloc (World.there_alloc ht _) _) _ _ _
  · exact (Kp.of_below (((Below.refl _ _).alloc (Nat.le_refl _) _).alloc (by simp) _)).setCells _
  · rw [size_setCells]; simp

theorem nw_set_now {w : World} {g : Nat} {now seq : Int} {q loads : Value} (h : w.heap[g]? = some (.cells (nwCells now q seq loads) 55 (0, 0))) (t : Int) :
    (w.setCell ⟨g, 1, none⟩ (.int .i64 t)).heap[g]? = some (.cells (nwCells t q seq loads) 55 (0, 0)) := heap_setCell_same w g 1 _ 55 _ h

/-- The world behind 'nw.queue = q; nw.now = m.at'. -/
theorem pop_mid {w wA wr wz wy : World} {g q0 gl nq : Nat} {now seq t : Int} {q' loads : Value} {G M Z : Array Value} {L : List (List Int)} (hwz : wz = wr.drewN nq) (hwy : wy = (wz.setCell ⟨g, 2, none⟩ q').setCell ⟨g, 1, none⟩ (.int .i64 t))
    (hkb : Kb q0 (w.heap.size + 2) wA wr) (kA : Kp g q0 gl w.heap.size w wA) {q : Value} (hG : wA.heap[g]? = some (.cells (nwCells now q seq loads) 55 (0, 0))) (hL : wA.heap[gl]? = some (.cells G 2 (0, 0)))
    (hM : wA.heap[w.heap.size + 1]? = some (.cells M 40 (0, 0))) (hZ : wA.heap[w.heap.size]? = some (.cells Z 40 (0, 0))) (hr : Rows15 wr q0 0 L) (h1 : q0 ≠ g) (h2 : gl ≠ g) (h3 : gl ≠ q0) (hg : g < w.heap.size) (hq : q0 < w.heap.size) (hgl : gl < w.heap.size) :
    wy.heap[g]? = some (.cells (nwCells t q' seq loads) 55 (0, 0)) ∧ wy.heap[gl]? = some (.cells G 2 (0, 0)) ∧ wy.heap[w.heap.size + 1]? = some (.cells M 40 (0, 0)) ∧ wy.heap[w.heap.size]? = some (.cells Z 40 (0, 0)) ∧
      Rows15 wy q0 0 L ∧ Kp g q0 gl w.heap.size w wy := by
  have old : ∀ k, k < w.heap.size + 2 → k ≠ q0 → k ≠ g → wy.heap[k]? = wA.heap[k]? := fun k hk hq hg => by
    rw [hwy, Below.heap_setCell _ _ _ _ hg, Below.heap_setCell _ _ _ _ hg, hwz]
    exact hkb.block k hk hq
  refine ⟨?_, ?_, ?_, ?_, ?_, ?_⟩
  · rw [hwy]
    refine nw_set_now (nw_set_queue (now := now) (seq := seq) (loads := loads) (q := q) ?_ _) _
    rw [hwz]
    exact (hkb.block g (by omega) (Ne.symm h1)).trans hG
  · rw [old gl (by omega) h3 h2]; exact hL
  · rw [old _ (by omega) (by omega) (by omega)]; exact hM
  · rw [old _ (by omega) (by omega) (by omega)]; exact hZ
  · rw [hwy]
    refine rows_setCell_other (rows_setCell_other ?_ h1) h1
    rw [hwz]; exact hr
  · have k1 : Kp g q0 gl w.heap.size wA wr := ⟨hkb.os, hkb.tape, hkb.output, hkb.size, fun k hk _ hq _ => hkb.block k (by omega) hq⟩
    rw [hwy, hwz]
    exact (((kA.trans k1).drewN nq).setG _).setG _

theorem loads_cell {w : World} {gl : Nat} {zs : List Int} {f : Int} (h : w.heap[gl]? = some (.cells (iv zs).toArray 2 (0, 0))) (h0 : 0 ≤ f) (h1 : f < (zs.length : Int)) : w.cell? ⟨gl, f.toNat, none⟩ = some (.int .i64 (zs.getD f.toNat 0)) := by
  rw [cell_of_row w gl _ _ 2 (0, 0) h]
  have : f.toNat < zs.length := by omega
  simp [iv, this]
theorem loads_set {w : World} {gl : Nat} {zs : List Int} (h : w.heap[gl]? = some (.cells (iv zs).toArray 2 (0, 0))) (f x : Int) :
    (w.setCell ⟨gl, f.toNat, none⟩ (.int .i64 (IntKind.i64.wrap (zs.getD f.toNat 0 - x)))).heap[gl]? = some (.cells (iv (subAt zs f x)).toArray 2 (0, 0)) := by
  rw [heap_setCell_same w gl _ _ 2 _ h]
  congr 2
  simp [iv, subAt, List.map_set]

theorem rows_swp2 {W : World} {gq n i p : Nat} {L : List (List Int)} (hL : ∀ m ∈ L, m.length = 15) (hl : L.length = n) (h : Rows15 W gq 0 L) (ht : W.there gq 0 ((n + 1) * 15)) (hi : i < n) (hp : p < n) (hne : i ≠ p) :
    Rows15 ((W.setCells gq (i * 15) (mc (gt L p))).setCells gq (p * 15) (mc (gt L i))) gq 0 (swp L i p) :=
  rows_swp hL hl h (there_sub ht (Nat.le_refl _) (by omega)) hi hp hne
theorem Kb.setQ {q B o : Nat} {a w : World} (h : Kb q B a w) (vs : List Value) : Kb q B a (w.setCells q o vs) :=
  h.trans ⟨(setCells_rest q vs o w).1, (setCells_rest q vs o w).2.1, (setCells_rest q vs o w).2.2, by rw [size_setCells]; exact Nat.le_refl _, fun k _ hq => heap_setCells_other q vs o w k hq⟩

/-- The world behind 'nw.loads[e] -= m.load'. -/
theorem pop_load {w wy wx : World} {g q0 gl : Nat} {zs : List Int} {f x z : Int} {C M Z : Array Value} {L : List (List Int)} (hwx : wx = (wy.setCell ⟨gl, f.toNat, none⟩ (.int .i64 (wrap64 (z - x)))).drew) (hz : z = zs.getD f.toNat 0)
    (h : wy.heap[g]? = some (.cells C 55 (0, 0)) ∧ wy.heap[gl]? = some (.cells (iv zs).toArray 2 (0, 0)) ∧ wy.heap[w.heap.size + 1]? = some (.cells M 40 (0, 0)) ∧ wy.heap[w.heap.size]? = some (.cells Z 40 (0, 0)) ∧ Rows15 wy q0 0 L ∧ Kp g q0 gl w.heap.size w wy)
    (h2 : gl ≠ g) (h3 : gl ≠ q0) (hgl : gl < w.heap.size) :
    wx.heap[g]? = some (.cells C 55 (0, 0)) ∧ wx.heap[gl]? = some (.cells (iv (subAt zs f x)).toArray 2 (0, 0)) ∧ wx.heap[w.heap.size + 1]? = some (.cells M 40 (0, 0)) ∧ wx.heap[w.heap.size]? = some (.cells Z 40 (0, 0)) ∧ Rows15 wx q0 0 L ∧ Kp g q0 gl w.heap.size w wx := by
  obtain ⟨a1, a2, a3, a4, a5, a6⟩ := h
  have old : ∀ k, k ≠ gl → wx.heap[k]? = wy.heap[k]? := fun k hk => by rw [hwx]; exact Below.heap_setCell _ _ _ _ hk
  refine ⟨by rw [old g (Ne.symm h2)]; exact a1, ?_, by rw [old _ (by omega)]; exact a3, by rw [old _ (by omega)]; exact a4, ?_, ?_⟩
  · rw [hwx, hz, ← IntWalk.i64_left]; exact loads_set a2 f x
  · rw [hwx]; exact rows_drew (rows_setCell_other a5 (Ne.symm h3))
  · rw [hwx]; exact (a6.setL _).drewN 1

theorem pop_done {w wv : World} {g q0 gl N cl : Nat} {ms L : List (List Int)} {zs : List Int} {seq : Int} {M Z : Array Value} {cs : Array Value}
    (h : wv.heap[g]? = some (.cells (nwCells (at' (gt ms 0)) (.slice (some ⟨q0, 0, none⟩) N (N + 1)) seq (.slice (some ⟨gl, 0, none⟩) zs.length cl)) 55 (0, 0)) ∧
      wv.heap[gl]? = some (.cells (iv (subAt (subAt zs (fr (gt ms 0)) (ld (gt ms 0))) (to' (gt ms 0)) (ld (gt ms 0)))).toArray 2 (0, 0)) ∧ wv.heap[w.heap.size + 1]? = some (.cells M 40 (0, 0)) ∧ wv.heap[w.heap.size]? = some (.cells Z 40 (0, 0)) ∧ Rows15 wv q0 0 L ∧ Kp g q0 gl w.heap.size w wv)
    (hl : L.length = N) (hL : ∀ m ∈ L, m.length = 15) (hp : L.Perm ms.tail) (hh : Heap ms → Heap L) (hg : g < w.heap.size) (hq : q0 < w.heap.size) (hgl : gl < w.heap.size) :
    Hid (PopPost g q0 gl ms N seq zs cl w (wv.setRow w.heap.size cs)) := by
  obtain ⟨a1, a2, _, _, a5, a6⟩ := h
  have b : Below w.heap.size wv (wv.setRow w.heap.size cs) := below_setRow (Below.refl _ _) (Nat.le_refl _) _
  exact ⟨L, (b.block g hg).trans a1, hl, hL, rows_below b a5 hq, hp, hh, (b.block gl hgl).trans a2, a6.trans (.of_below b)⟩

section
attribute [local go_sem ↓] exec_ld40 exec_st40
set_option maxHeartbeats 3200000 in
set_option maxRecDepth 100000 in
theorem pop_any (g q0 gl : Nat) (ms : List (List Int)) (N : Nat) (now seq : Int) (zs : List Int) (cl : Nat) (hN : ms.length = N + 1) (hms : ∀ m ∈ ms, m.length = 15) (w : World)
    (hg : w.heap[g]? = some (.cells (nwCells now (.slice (some ⟨q0, 0, none⟩) (N + 1) (N + 1)) seq (.slice (some ⟨gl, 0, none⟩) zs.length cl)) 55 (0, 0)))
    (hr : Rows15 w q0 0 ms) (ht : w.there q0 0 ((N + 1) * 15)) (hgl : w.heap[gl]? = some (.cells (iv zs).toArray 2 (0, 0))) (he : Ends (gt ms 0) zs.length)
    (h1 : q0 ≠ g) (h2 : gl ≠ g) (h3 : gl ≠ q0) (hn : N ≤ 1000000) (hzn : zs.length ≤ 1000000) :
    Calls Try.prog 25 #[.pointer (some ⟨g, 0, none⟩)] w fun e w' => e = .returned (.agg (mc (gt ms 0)).toArray) ∧ Hid (PopPost g q0 gl ms N seq zs cl w w') := by
  obtain ⟨c1, c2, c3, c4, cf⟩ := nw_cell hg
  have hxl : (gt ms 0).length = 15 := getD_len15 hms (by omega)
  have hyl : (gt ms N).length = 15 := getD_len15 hms (by omega)
  have hx0 : w.rangeAt q0 0 (mc (gt ms 0)) := by have := hr 0 (by omega); rwa [Nat.zero_add, Nat.zero_mul] at this
  have hy0 : w.rangeAt q0 (N * 15) (mc (gt ms N)) := by have := hr N (by omega); rwa [Nat.zero_add] at this
  have l1 := fun o => run_ld40 (World.rangeAt_alloc hx0 o) hxl
  have l2 := fun o o' => run_ld40 (World.rangeAt_alloc (World.rangeAt_alloc hy0 o) o') hyl
  have s1 := fun o o' => run_st40 (m := gt ms N) (World.there_alloc (World.there_alloc (there_sub ht (o' := 0) (n' := 15) (by omega) (by omega)) o) o') hyl
  obtain ⟨x, hx⟩ : ∃ x, x = gt ms 0 := ⟨_, rfl⟩
  obtain ⟨y, hy⟩ : ∃ y, y = gt ms N := ⟨_, rfl⟩
  rw [← hx] at l1 hxl
  rw [← hy] at l2 hyl s1
  have hst := fun o old ho => run_st40_row (w := (w.alloc o).alloc (.cells old 40)) (g := w.heap.size + 1) (m := x) (heap_alloc2_new _ _ _) ho hxl
  have e2 : ∀ o old cs, ((w.alloc o).alloc (.cells old 40)).setRow (w.heap.size + 1) cs = (w.alloc o).alloc (.cells cs 40) := fun o old cs => by
    have := setRow_alloc_new (w.alloc o) old cs 40 (0, 0)
    simpa using this
  simp only [e2] at hst
  have hN2 : (0 : Int) < (N : Int) + 1 := by omega
  have hgs : g < w.heap.size := block_lt_of_cell c1
  have hgls : gl < w.heap.size := block_lt_of_cell (loads_cell hgl he.1 he.2.1)
  obtain ⟨he1, he2, he3, he4⟩ := he
  rw [← hx] at he1 he2 he3 he4
  rw [← hx]
  have HX : Hid (x = gt ms 0) := hx
  have HY : Hid (y = gt ms N) := hy
  clear hx hy hx0 hy0 e2
  go_enter Try.func25, Try.ntmps25
  go_wp2_with fail
  obtain ⟨wA, hwA, gA, lA, zA, mA, rA, tA, kA, sA, hqs⟩ := pop_start (x := x) (y := y) hg hr ht hgl h1 h3 hN hms hyl (mc zeros15).toArray
  rw [show (mc zeros15).toArray = #[.int .i64 0, .int .i64 0, .int .u64 0, .int .i64 0, .int .i64 0, .int .u8 0, .int .u8 0, .int .i64 0, .int .i64 0, .int .i64 0, .int .i64 0, .int .i64 0, .int .i64 0, .int .i64 0, .int .i64 0] from rfl] at hwA
  rw [← hwA]
  have HG : Hid (wA.heap[g]? = _) := gA
  have HLo : Hid (wA.heap[gl]? = _) := lA
  have HZ : Hid (wA.heap[w.heap.size]? = _) := zA
  have HM : Hid (wA.heap[w.heap.size + 1]? = _) := mA
  have HL0 : Hid (((ms.set 0 y).take N).length = N) := by show _ = _; simp [hN]
  have HN : Hid (ms.length = N + 1) := hN
  have hall : ∀ m ∈ (ms.set 0 y).take N, m.length = 15 := fun m hm => by
    rcases List.mem_or_eq_of_mem_set (List.mem_of_mem_take hm) with h | h
    · exact hms m h
    · rw [h]; exact hyl
  have HP0 : Hid (((ms.set 0 y).take N).Perm ms.tail) := by show List.Perm _ _; rw [HY.out]; exact pop_perm ms N hN
  have HH0 : Hid (Heap ms → DownExc ((ms.set 0 y).take N) 0) := fun h => down_start ms y N h hN
  clear hwA gA lA zA mA hg hr ht hgl c1 c2 c3 c4 cf l1 l2 s1 hst hN hN2 HY hyl
  go_loopw [6] (fun si wr => ∃ (i : Nat) (L : List (List Int)), si = .int .i64 i ∧ i ≤ N ∧ Hid (L.length = N) ∧ (∀ m ∈ L, m.length = 15) ∧ Rows15 wr q0 0 L ∧ wr.there q0 0 ((N + 1) * 15) ∧ Kb q0 (w.heap.size + 2) wA wr ∧ Hid (L.Perm ms.tail) ∧ Hid (Heap ms → DownExc L i)) (fun si _ => N + 1 - (intOf si).toNat)
  case atStart => exact ⟨0, _, rfl, Nat.zero_le _, HL0.out, hall, rA, tA, ⟨rfl, rfl, rfl, Nat.le_refl _, fun _ _ _ => rfl⟩, HP0.out, HH0.out⟩
  case round =>
    clear HL0 hall rA tA HP0 HH0
    obtain ⟨i, L, rfl, hiN, HL, hL, hrow, hth, hkb, HP, HD⟩ := hrel
    have hi0 : (0 : Int) ≤ (i : Int) := Int.natCast_nonneg _
    by_cases c1 : 2 * i + 1 < N
    · have hil : i < L.length := by have := HL.out; omega
      have hll : 2 * i + 1 < L.length := by have := HL.out; omega
      have hxl1 : (gt L i).length = 15 := getD_len15 hL hil
      have hll1 : (gt L (2 * i + 1)).length = 15 := getD_len15 hL hll
      have hx0 : wr.rangeAt q0 (i * 15) (mc (gt L i)) := by have := hrow i hil; rwa [Nat.zero_add] at this
      have hl0 : wr.rangeAt q0 ((2 * i + 1) * 15) (mc (gt L (2 * i + 1))) := by have := hrow (2 * i + 1) hll; rwa [Nat.zero_add] at this
      obtain ⟨xi, hxi⟩ : ∃ xi, xi = gt L i := ⟨_, rfl⟩
      obtain ⟨xl, hxl2⟩ : ∃ xl, xl = gt L (2 * i + 1) := ⟨_, rfl⟩
      rw [← hxi] at hx0 hxl1
      rw [← hxl2] at hl0 hll1
      have HXI : Hid (xi = gt L i) := hxi
      have HXL : Hid (xl = gt L (2 * i + 1)) := hxl2
      have c1' : 2 * (i : Int) + 1 < (N : Int) := by omega
      have p1 : (0 : Int) ≤ 2 * (i : Int) + 1 := by omega
      have p2 : (0 : Int) ≤ 2 * (i : Int) + 2 := by omega
      have e1 : (2 * (i : Int) + 1).toNat = 2 * i + 1 := by omega
      have e2 : (2 * (i : Int) + 2).toNat = 2 * i + 2 := by omega
      have im : (i : Int) < (N : Int) := by omega
      have n1 : ((2 * (i : Int) + 1) == (i : Int)) = false := beq_eq_false_iff_ne.2 (by omega)
      have n2 : ((2 * (i : Int) + 2) == (i : Int)) = false := beq_eq_false_iff_ne.2 (by omega)
      clear hxi hxl2
      rcases hb1 : bef xl xi with _ | _
      · by_cases c2 : 2 * i + 2 < N
        · have hrl : 2 * i + 2 < L.length := by have := HL.out; omega
          have hrl1 : (gt L (2 * i + 2)).length = 15 := getD_len15 hL hrl
          have hr0 : wr.rangeAt q0 ((2 * i + 2) * 15) (mc (gt L (2 * i + 2))) := by have := hrow (2 * i + 2) hrl; rwa [Nat.zero_add] at this
          obtain ⟨xr, hxr⟩ : ∃ xr, xr = gt L (2 * i + 2) := ⟨_, rfl⟩
          rw [← hxr] at hr0 hrl1
          have HXR : Hid (xr = gt L (2 * i + 2)) := hxr
          have c2' : 2 * (i : Int) + 2 < (N : Int) := by omega
          clear hxr
          rcases hb2 : bef xr xi with _ | _
          · have hL2 : Hid (∀ m ∈ L, m.length = 15) := hL
            have HF : Hid (Heap ms → Heap L) := fun h => down_stop (HD.out h) (fun _ => by rw [← HXL.out, ← HXI.out]; exact hb1) (fun _ => by rw [← HXR.out, ← HXI.out]; exact hb2)
            go_wp2_with fail
            go_quiet ((go_at_call 29; exact Calls.quiet_of (before_any q0 ((2 * i + 1) * 15) q0 (i * 15) xl xi hll1 hxl1 _ hl0 hx0)))
            go_wp2_with fail
            generalize hw1 : wr.drewN _ = wr1
            have gx0 : wr1.rangeAt q0 (i * 15) (mc xi) := by rw [← hw1]; exact hx0
            have gl0 : wr1.rangeAt q0 ((2 * i + 1) * 15) (mc xl) := by rw [← hw1]; exact hl0
            have gr0 : wr1.rangeAt q0 ((2 * i + 2) * 15) (mc xr) := by rw [← hw1]; exact hr0
            have grow : Rows15 wr1 q0 0 L := by rw [← hw1]; exact hrow
            have gth : wr1.there q0 0 ((N + 1) * 15) := by rw [← hw1]; exact hth
            have gkb : Kb q0 (w.heap.size + 2) wA wr1 := by rw [← hw1]; exact hkb.drewN _
            clear hx0 hl0 hr0 hrow hth hkb hw1
            go_quiet ((go_at_call 29; exact Calls.quiet_of (before_any q0 ((2 * i + 2) * 15) q0 (i * 15) xr xi hrl1 hxl1 _ gr0 gx0)))
            have hrow := grow
            have hth := gth
            have hkb := gkb
            clear gx0 gl0 gr0 grow gth gkb
            have hgr := (hkb.block g (by omega) (Ne.symm h1)).trans HG.out
            obtain ⟨e1, e2, e3, e4, ef⟩ := nw_cell hgr
            have ef1 := ef 1
            have ef2 := ef 2
            have hmr := (hkb.block (w.heap.size + 1) (by omega) (by omega)).trans HM.out
            obtain ⟨m0, _⟩ := mc_at (range_of_mc hmr) hxl
            have hne1 : ¬ w.heap.size + 1 = g := by omega
            have hne2 : ¬ g = w.heap.size + 1 := by omega
            clear e3 e4 ef hgr hmr
            go_wp2_with fail
            generalize hwz : wr1.drewN _ = wz
            obtain ⟨wy, hwy⟩ : ∃ wy, wy = (wz.setCell ⟨g, 2, none⟩ (.slice (some ⟨q0, 0, none⟩) N (N + 1))).setCell ⟨g, 1, none⟩ (.int .i64 (at' x)) := ⟨_, rfl⟩
            rw [← hwy]
            have PM := pop_mid hwz.symm hwy hkb kA HG.out HLo.out HM.out HZ.out hrow h1 h2 h3 hgs hqs hgls
            have HPM : Hid (_ ∧ _) := PM
            obtain ⟨f1, f2, f3, f4, ff⟩ := nw_cell PM.1
            obtain ⟨p1, p2, p3⟩ := mc_ends (range_of_mc PM.2.2.1) hxl
            have hzl := loads_cell PM.2.1 he1 he2
            have hzf := frozen_of_row wy gl (fr x).toNat _ 2 PM.2.1
            obtain ⟨z, hz⟩ : ∃ z, z = zs.getD (fr x).toNat 0 := ⟨_, rfl⟩
            rw [← hz] at hzl
            have Hz : Hid (z = _) := hz
            clear e1 e2 ef1 ef2 m0 hwz hwy PM hrow hth hkb f1 f2 f3 ff hL hne1 hne2 hz
            go_big_region
            obtain ⟨wx, hwx⟩ : ∃ wx, wx = (wy.setCell ⟨gl, (fr x).toNat, none⟩ (.int .i64 (wrap64 (z - ld x)))).drew := ⟨_, rfl⟩
            rw [← hwx]
            have PN := pop_load hwx Hz.out HPM.out h2 h3 hgls
            have HPN : Hid (_ ∧ _) := PN
            clear f4 p1 p2 p3 hzl hzf
            obtain ⟨f1, f2, f3, f4, ff⟩ := nw_cell PN.1
            obtain ⟨p1, p2, p3⟩ := mc_ends (range_of_mc PN.2.2.1) hxl
            have hzl := loads_cell PN.2.1 he3 (by rw [subAt_length]; exact he4)
            have hzf := frozen_of_row wx gl (to' x).toNat _ 2 PN.2.1
            obtain ⟨z2, hz2⟩ : ∃ z2, z2 = (subAt zs (fr x) (ld x)).getD (to' x).toNat 0 := ⟨_, rfl⟩
            rw [← hz2] at hzl
            have Hz2 : Hid (z2 = _) := hz2
            clear hwx PN HPM Hz f1 f2 f3 ff hz2
            go_wp2_with fail
            go_big_region
            obtain ⟨wv, hwv⟩ : ∃ wv, wv = (wx.setCell ⟨gl, (to' x).toNat, none⟩ (.int .i64 (wrap64 (z2 - ld x)))).drew := ⟨_, rfl⟩
            rw [← hwv]
            have PV := pop_load hwv Hz2.out HPN.out h2 h3 hgls
            have HPV : Hid (_ ∧ _) := PV
            clear f4 p1 p2 p3 hzl hzf HPN Hz2 hwv
            have lm := run_ld40 (range_of_mc PV.2.2.1) hxl
            have sm := run_st40_row PV.2.2.2.1 rfl hxl
            clear PV
            go_wp2
            refine bodyPost_ret (results_cell_row (P := Try.prog) rfl _ _ w.heap.size 40 _ (0, 0) _ rfl (setRow_heap _ _ _ _ 40 (0, 0) HPV.out.2.2.2.1) Try.underlying40 rfl (by rw [Try.size40]; simp [mc_length x hxl])) rfl ⟨rfl, ?_⟩
            rw [HX.out] at HPV
            exact pop_done HPV.out HL.out hL2.out HP.out HF.out hgs hqs hgls
          · have h7 : Hid (Heap ms → DownExc (swp L i (2 * i + 2)) (2 * i + 2)) := fun h => down_right' (HD.out h) hrl (by rw [← HXL.out, ← HXI.out]; exact hb1) (by rw [← HXR.out, ← HXI.out]; exact hb2)
            go_wp2_with fail
            go_quiet ((go_at_call 29; exact Calls.quiet_of (before_any q0 ((2 * i + 1) * 15) q0 (i * 15) xl xi hll1 hxl1 _ hl0 hx0)))
            go_wp2_with fail
            generalize hw1 : wr.drewN _ = wr1
            have gx0 : wr1.rangeAt q0 (i * 15) (mc xi) := by rw [← hw1]; exact hx0
            have gl0 : wr1.rangeAt q0 ((2 * i + 1) * 15) (mc xl) := by rw [← hw1]; exact hl0
            have gr0 : wr1.rangeAt q0 ((2 * i + 2) * 15) (mc xr) := by rw [← hw1]; exact hr0
            have grow : Rows15 wr1 q0 0 L := by rw [← hw1]; exact hrow
            have gth : wr1.there q0 0 ((N + 1) * 15) := by rw [← hw1]; exact hth
            have gkb : Kb q0 (w.heap.size + 2) wA wr1 := by rw [← hw1]; exact hkb.drewN _
            clear hx0 hl0 hr0 hrow hth hkb hw1
            go_quiet ((go_at_call 29; exact Calls.quiet_of (before_any q0 ((2 * i + 2) * 15) q0 (i * 15) xr xi hrl1 hxl1 _ gr0 gx0)))
            go_wp2_with fail
            generalize hwq : wr1.drewN _ = wq
            have hxq : wq.drew.rangeAt q0 (i * 15) (mc xi) := by rw [← hwq]; exact gx0
            have hyq : wq.drew.rangeAt q0 ((2 * i + 2) * 15) (mc xr) := by rw [← hwq]; exact gr0
            have htq : wq.drew.there q0 0 ((N + 1) * 15) := by rw [← hwq]; exact gth
            have HRQ : Hid (Rows15 wq.drew q0 0 L) := by rw [← hwq]; exact grow
            have hkq : Kb q0 (w.heap.size + 2) wA wq.drew := by rw [← hwq]; exact (gkb.drewN _).drewN 1
            have l1 := run_ld40 hxq hxl1
            have l2 := run_ld40 hyq hrl1
            have s1 := run_st40 (m := xr) (there_sub htq (o' := i * 15) (n' := 15) (by omega) (by omega)) hrl1
            have s2 := run_st40 (m := xi) (World.there_setCells (there_sub htq (o' := (2 * i + 2) * 15) (n' := 15) (by omega) (by omega)) q0 (i * 15) (mc xr)) hxl1
            clear hxq hyq gx0 gl0 gr0 hwq grow gth gkb
            go_big_region
            go_wp2
            go_roundw
            case rel =>
              refine ⟨2 * i + 2, swp L i (2 * i + 2), by go_num, by omega, by show _ = _; rw [swp_length]; exact HL.out, swp_len15 L i (2 * i + 2) hil (by have := HL.out; omega) hL, ?_, World.there_setCells (World.there_setCells htq _ _ _) _ _ _, Kb.setQ (Kb.setQ hkq _) _, (swp_perm L i (2 * i + 2) hil (by have := HL.out; omega)).trans HP.out, h7.out⟩
              have := rows_swp2 (i := i) (p := 2 * i + 2) hL HL.out HRQ.out htq (by omega) (by omega) (by omega)
              rw [HXI.out, HXR.out]; exact this
            case measure => simp [intOf]; omega
        · have c2' : decide (2 * (i : Int) + 2 < (N : Int)) = false := decide_eq_false (by omega)
          have hL2 : Hid (∀ m ∈ L, m.length = 15) := hL
          have HF : Hid (Heap ms → Heap L) := fun h => down_stop (HD.out h) (fun _ => by rw [← HXL.out, ← HXI.out]; exact hb1) (fun h => by have := HL.out; omega)
          go_wp2_with fail
          go_quiet ((go_at_call 29; exact Calls.quiet_of (before_any q0 ((2 * i + 1) * 15) q0 (i * 15) xl xi hll1 hxl1 _ hl0 hx0)))
          go_wp2_with fail
          go_quiet (fail)
          clear hx0 hl0
          have hgr := (hkb.block g (by omega) (Ne.symm h1)).trans HG.out
          obtain ⟨e1, e2, e3, e4, ef⟩ := nw_cell hgr
          have ef1 := ef 1
          have ef2 := ef 2
          have hmr := (hkb.block (w.heap.size + 1) (by omega) (by omega)).trans HM.out
          obtain ⟨m0, _⟩ := mc_at (range_of_mc hmr) hxl
          have hne1 : ¬ w.heap.size + 1 = g := by omega
          have hne2 : ¬ g = w.heap.size + 1 := by omega
          clear e3 e4 ef hgr hmr
          go_wp2_with fail
          generalize hwz : wr.drewN _ = wz
          obtain ⟨wy, hwy⟩ : ∃ wy, wy = (wz.setCell ⟨g, 2, none⟩ (.slice (some ⟨q0, 0, none⟩) N (N + 1))).setCell ⟨g, 1, none⟩ (.int .i64 (at' x)) := ⟨_, rfl⟩
          rw [← hwy]
          have PM := pop_mid hwz.symm hwy hkb kA HG.out HLo.out HM.out HZ.out hrow h1 h2 h3 hgs hqs hgls
          have HPM : Hid (_ ∧ _) := PM
          obtain ⟨f1, f2, f3, f4, ff⟩ := nw_cell PM.1
          obtain ⟨p1, p2, p3⟩ := mc_ends (range_of_mc PM.2.2.1) hxl
          have hzl := loads_cell PM.2.1 he1 he2
          have hzf := frozen_of_row wy gl (fr x).toNat _ 2 PM.2.1
          obtain ⟨z, hz⟩ : ∃ z, z = zs.getD (fr x).toNat 0 := ⟨_, rfl⟩
          rw [← hz] at hzl
          have Hz : Hid (z = _) := hz
          clear e1 e2 ef1 ef2 m0 hwz hwy PM hrow hth hkb f1 f2 f3 ff hL hne1 hne2 hz
          go_big_region
          obtain ⟨wx, hwx⟩ : ∃ wx, wx = (wy.setCell ⟨gl, (fr x).toNat, none⟩ (.int .i64 (wrap64 (z - ld x)))).drew := ⟨_, rfl⟩
          rw [← hwx]
          have PN := pop_load hwx Hz.out HPM.out h2 h3 hgls
          have HPN : Hid (_ ∧ _) := PN
          clear f4 p1 p2 p3 hzl hzf
          obtain ⟨f1, f2, f3, f4, ff⟩ := nw_cell PN.1
          obtain ⟨p1, p2, p3⟩ := mc_ends (range_of_mc PN.2.2.1) hxl
          have hzl := loads_cell PN.2.1 he3 (by rw [subAt_length]; exact he4)
          have hzf := frozen_of_row wx gl (to' x).toNat _ 2 PN.2.1
          obtain ⟨z2, hz2⟩ : ∃ z2, z2 = (subAt zs (fr x) (ld x)).getD (to' x).toNat 0 := ⟨_, rfl⟩
          rw [← hz2] at hzl
          have Hz2 : Hid (z2 = _) := hz2
          clear hwx PN HPM Hz f1 f2 f3 ff hz2
          go_wp2_with fail
          go_big_region
          obtain ⟨wv, hwv⟩ : ∃ wv, wv = (wx.setCell ⟨gl, (to' x).toNat, none⟩ (.int .i64 (wrap64 (z2 - ld x)))).drew := ⟨_, rfl⟩
          rw [← hwv]
          have PV := pop_load hwv Hz2.out HPN.out h2 h3 hgls
          have HPV : Hid (_ ∧ _) := PV
          clear f4 p1 p2 p3 hzl hzf HPN Hz2 hwv
          have lm := run_ld40 (range_of_mc PV.2.2.1) hxl
          have sm := run_st40_row PV.2.2.2.1 rfl hxl
          clear PV
          go_wp2
          refine bodyPost_ret (results_cell_row (P := Try.prog) rfl _ _ w.heap.size 40 _ (0, 0) _ rfl (setRow_heap _ _ _ _ 40 (0, 0) HPV.out.2.2.2.1) Try.underlying40 rfl (by rw [Try.size40]; simp [mc_length x hxl])) rfl ⟨rfl, ?_⟩
          rw [HX.out] at HPV
          exact pop_done HPV.out HL.out hL2.out HP.out HF.out hgs hqs hgls
      · by_cases c2 : 2 * i + 2 < N
        · have hrl : 2 * i + 2 < L.length := by have := HL.out; omega
          have hrl1 : (gt L (2 * i + 2)).length = 15 := getD_len15 hL hrl
          have hr0 : wr.rangeAt q0 ((2 * i + 2) * 15) (mc (gt L (2 * i + 2))) := by have := hrow (2 * i + 2) hrl; rwa [Nat.zero_add] at this
          obtain ⟨xr, hxr⟩ : ∃ xr, xr = gt L (2 * i + 2) := ⟨_, rfl⟩
          rw [← hxr] at hr0 hrl1
          have HXR : Hid (xr = gt L (2 * i + 2)) := hxr
          have c2' : 2 * (i : Int) + 2 < (N : Int) := by omega
          clear hxr
          rcases hb2 : bef xr xl with _ | _
          · have h7 : Hid (Heap ms → DownExc (swp L i (2 * i + 1)) (2 * i + 1)) := fun h => down_left (HD.out h) hll (by rw [← HXL.out, ← HXI.out]; exact hb1) (fun _ => by rw [← HXR.out, ← HXL.out]; exact hb2)
            go_wp2_with fail
            go_quiet ((go_at_call 29; exact Calls.quiet_of (before_any q0 ((2 * i + 1) * 15) q0 (i * 15) xl xi hll1 hxl1 _ hl0 hx0)))
            go_wp2_with fail
            generalize hw1 : wr.drewN _ = wr1
            have gx0 : wr1.rangeAt q0 (i * 15) (mc xi) := by rw [← hw1]; exact hx0
            have gl0 : wr1.rangeAt q0 ((2 * i + 1) * 15) (mc xl) := by rw [← hw1]; exact hl0
            have gr0 : wr1.rangeAt q0 ((2 * i + 2) * 15) (mc xr) := by rw [← hw1]; exact hr0
            have grow : Rows15 wr1 q0 0 L := by rw [← hw1]; exact hrow
            have gth : wr1.there q0 0 ((N + 1) * 15) := by rw [← hw1]; exact hth
            have gkb : Kb q0 (w.heap.size + 2) wA wr1 := by rw [← hw1]; exact hkb.drewN _
            clear hx0 hl0 hr0 hrow hth hkb hw1
            go_quiet ((go_at_call 29; exact Calls.quiet_of (before_any q0 ((2 * i + 2) * 15) q0 ((2 * i + 1) * 15) xr xl hrl1 hll1 _ gr0 gl0)))
            go_wp2_with fail
            generalize hwq : wr1.drewN _ = wq
            have hxq : wq.drew.rangeAt q0 (i * 15) (mc xi) := by rw [← hwq]; exact gx0
            have hyq : wq.drew.rangeAt q0 ((2 * i + 1) * 15) (mc xl) := by rw [← hwq]; exact gl0
            have htq : wq.drew.there q0 0 ((N + 1) * 15) := by rw [← hwq]; exact gth
            have HRQ : Hid (Rows15 wq.drew q0 0 L) := by rw [← hwq]; exact grow
            have hkq : Kb q0 (w.heap.size + 2) wA wq.drew := by rw [← hwq]; exact (gkb.drewN _).drewN 1
            have l1 := run_ld40 hxq hxl1
            have l2 := run_ld40 hyq hll1
            have s1 := run_st40 (m := xl) (there_sub htq (o' := i * 15) (n' := 15) (by omega) (by omega)) hll1
            have s2 := run_st40 (m := xi) (World.there_setCells (there_sub htq (o' := (2 * i + 1) * 15) (n' := 15) (by omega) (by omega)) q0 (i * 15) (mc xl)) hxl1
            clear hxq hyq gx0 gl0 gr0 hwq grow gth gkb
            go_big_region
            go_wp2
            go_roundw
            case rel =>
              refine ⟨2 * i + 1, swp L i (2 * i + 1), by go_num, by omega, by show _ = _; rw [swp_length]; exact HL.out, swp_len15 L i (2 * i + 1) hil (by have := HL.out; omega) hL, ?_, World.there_setCells (World.there_setCells htq _ _ _) _ _ _, Kb.setQ (Kb.setQ hkq _) _, (swp_perm L i (2 * i + 1) hil (by have := HL.out; omega)).trans HP.out, h7.out⟩
              have := rows_swp2 (i := i) (p := 2 * i + 1) hL HL.out HRQ.out htq (by omega) (by omega) (by omega)
              rw [HXI.out, HXL.out]; exact this
            case measure => simp [intOf]; omega
          · have h7 : Hid (Heap ms → DownExc (swp L i (2 * i + 2)) (2 * i + 2)) := fun h => down_right (HD.out h) hrl (by rw [← HXL.out, ← HXI.out]; exact hb1) (by rw [← HXR.out, ← HXL.out]; exact hb2)
            go_wp2_with fail
            go_quiet ((go_at_call 29; exact Calls.quiet_of (before_any q0 ((2 * i + 1) * 15) q0 (i * 15) xl xi hll1 hxl1 _ hl0 hx0)))
            go_wp2_with fail
            generalize hw1 : wr.drewN _ = wr1
            have gx0 : wr1.rangeAt q0 (i * 15) (mc xi) := by rw [← hw1]; exact hx0
            have gl0 : wr1.rangeAt q0 ((2 * i + 1) * 15) (mc xl) := by rw [← hw1]; exact hl0
            have gr0 : wr1.rangeAt q0 ((2 * i + 2) * 15) (mc xr) := by rw [← hw1]; exact hr0
            have grow : Rows15 wr1 q0 0 L := by rw [← hw1]; exact hrow
            have gth : wr1.there q0 0 ((N + 1) * 15) := by rw [← hw1]; exact hth
            have gkb : Kb q0 (w.heap.size + 2) wA wr1 := by rw [← hw1]; exact hkb.drewN _
            clear hx0 hl0 hr0 hrow hth hkb hw1
            go_quiet ((go_at_call 29; exact Calls.quiet_of (before_any q0 ((2 * i + 2) * 15) q0 ((2 * i + 1) * 15) xr xl hrl1 hll1 _ gr0 gl0)))
            go_wp2_with fail
            generalize hwq : wr1.drewN _ = wq
            have hxq : wq.drew.rangeAt q0 (i * 15) (mc xi) := by rw [← hwq]; exact gx0
            have hyq : wq.drew.rangeAt q0 ((2 * i + 2) * 15) (mc xr) := by rw [← hwq]; exact gr0
            have htq : wq.drew.there q0 0 ((N + 1) * 15) := by rw [← hwq]; exact gth
            have HRQ : Hid (Rows15 wq.drew q0 0 L) := by rw [← hwq]; exact grow
            have hkq : Kb q0 (w.heap.size + 2) wA wq.drew := by rw [← hwq]; exact (gkb.drewN _).drewN 1
            have l1 := run_ld40 hxq hxl1
            have l2 := run_ld40 hyq hrl1
            have s1 := run_st40 (m := xr) (there_sub htq (o' := i * 15) (n' := 15) (by omega) (by omega)) hrl1
            have s2 := run_st40 (m := xi) (World.there_setCells (there_sub htq (o' := (2 * i + 2) * 15) (n' := 15) (by omega) (by omega)) q0 (i * 15) (mc xr)) hxl1
            clear hxq hyq gx0 gl0 gr0 hwq grow gth gkb
            go_big_region
            go_wp2
            go_roundw
            case rel =>
              refine ⟨2 * i + 2, swp L i (2 * i + 2), by go_num, by omega, by show _ = _; rw [swp_length]; exact HL.out, swp_len15 L i (2 * i + 2) hil (by have := HL.out; omega) hL, ?_, World.there_setCells (World.there_setCells htq _ _ _) _ _ _, Kb.setQ (Kb.setQ hkq _) _, (swp_perm L i (2 * i + 2) hil (by have := HL.out; omega)).trans HP.out, h7.out⟩
              have := rows_swp2 (i := i) (p := 2 * i + 2) hL HL.out HRQ.out htq (by omega) (by omega) (by omega)
              rw [HXI.out, HXR.out]; exact this
            case measure => simp [intOf]; omega
        · have c2' : decide (2 * (i : Int) + 2 < (N : Int)) = false := decide_eq_false (by omega)
          have h7 : Hid (Heap ms → DownExc (swp L i (2 * i + 1)) (2 * i + 1)) := fun h => down_left (HD.out h) hll (by rw [← HXL.out, ← HXI.out]; exact hb1) (fun h => by have := HL.out; omega)
          go_wp2_with fail
          go_quiet ((go_at_call 29; exact Calls.quiet_of (before_any q0 ((2 * i + 1) * 15) q0 (i * 15) xl xi hll1 hxl1 _ hl0 hx0)))
          go_wp2_with fail
          go_quiet (fail)
          go_wp2_with fail
          generalize hwq : wr.drewN _ = wq
          have hxq : wq.drew.rangeAt q0 (i * 15) (mc xi) := by rw [← hwq]; exact hx0
          have hyq : wq.drew.rangeAt q0 ((2 * i + 1) * 15) (mc xl) := by rw [← hwq]; exact hl0
          have htq : wq.drew.there q0 0 ((N + 1) * 15) := by rw [← hwq]; exact hth
          have HRQ : Hid (Rows15 wq.drew q0 0 L) := by rw [← hwq]; exact hrow
          have hkq : Kb q0 (w.heap.size + 2) wA wq.drew := by rw [← hwq]; exact (hkb.drewN _).drewN 1
          have l1 := run_ld40 hxq hxl1
          have l2 := run_ld40 hyq hll1
          have s1 := run_st40 (m := xl) (there_sub htq (o' := i * 15) (n' := 15) (by omega) (by omega)) hll1
          have s2 := run_st40 (m := xi) (World.there_setCells (there_sub htq (o' := (2 * i + 1) * 15) (n' := 15) (by omega) (by omega)) q0 (i * 15) (mc xl)) hxl1
          clear hxq hyq hx0 hl0 hwq hrow hth hkb
          go_big_region
          go_wp2
          go_roundw
          case rel =>
            refine ⟨2 * i + 1, swp L i (2 * i + 1), by go_num, by omega, by show _ = _; rw [swp_length]; exact HL.out, swp_len15 L i (2 * i + 1) hil (by have := HL.out; omega) hL, ?_, World.there_setCells (World.there_setCells htq _ _ _) _ _ _, Kb.setQ (Kb.setQ hkq _) _, (swp_perm L i (2 * i + 1) hil (by have := HL.out; omega)).trans HP.out, h7.out⟩
            have := rows_swp2 (i := i) (p := 2 * i + 1) hL HL.out HRQ.out htq (by omega) (by omega) (by omega)
            rw [HXI.out, HXL.out]; exact this
          case measure => simp [intOf]; omega
    · have c1' : decide (2 * (i : Int) + 1 < (N : Int)) = false := decide_eq_false (by omega)
      have c2' : decide (2 * (i : Int) + 2 < (N : Int)) = false := decide_eq_false (by omega)
      have hL2 : Hid (∀ m ∈ L, m.length = 15) := hL
      have HF : Hid (Heap ms → Heap L) := fun h => down_stop (HD.out h) (fun h => by have := HL.out; omega) (fun h => by have := HL.out; omega)
      go_wp2_with fail
      go_quiet (fail)
      go_wp2_with fail
      go_quiet (fail)
      have hgr := (hkb.block g (by omega) (Ne.symm h1)).trans HG.out
      obtain ⟨e1, e2, e3, e4, ef⟩ := nw_cell hgr
      have ef1 := ef 1
      have ef2 := ef 2
      have hmr := (hkb.block (w.heap.size + 1) (by omega) (by omega)).trans HM.out
      obtain ⟨m0, _⟩ := mc_at (range_of_mc hmr) hxl
      have hne1 : ¬ w.heap.size + 1 = g := by omega
      have hne2 : ¬ g = w.heap.size + 1 := by omega
      clear e3 e4 ef hgr hmr
      go_wp2_with fail
      generalize hwz : wr.drewN _ = wz
      obtain ⟨wy, hwy⟩ : ∃ wy, wy = (wz.setCell ⟨g, 2, none⟩ (.slice (some ⟨q0, 0, none⟩) N (N + 1))).setCell ⟨g, 1, none⟩ (.int .i64 (at' x)) := ⟨_, rfl⟩
      rw [← hwy]
      have PM := pop_mid hwz.symm hwy hkb kA HG.out HLo.out HM.out HZ.out hrow h1 h2 h3 hgs hqs hgls
      have HPM : Hid (_ ∧ _) := PM
      obtain ⟨f1, f2, f3, f4, ff⟩ := nw_cell PM.1
      obtain ⟨p1, p2, p3⟩ := mc_ends (range_of_mc PM.2.2.1) hxl
      have hzl := loads_cell PM.2.1 he1 he2
      have hzf := frozen_of_row wy gl (fr x).toNat _ 2 PM.2.1
      obtain ⟨z, hz⟩ : ∃ z, z = zs.getD (fr x).toNat 0 := ⟨_, rfl⟩
      rw [← hz] at hzl
      have Hz : Hid (z = _) := hz
      clear e1 e2 ef1 ef2 m0 hwz hwy PM hrow hth hkb f1 f2 f3 ff hL hne1 hne2 hz
      go_big_region
      obtain ⟨wx, hwx⟩ : ∃ wx, wx = (wy.setCell ⟨gl, (fr x).toNat, none⟩ (.int .i64 (wrap64 (z - ld x)))).drew := ⟨_, rfl⟩
      rw [← hwx]
      have PN := pop_load hwx Hz.out HPM.out h2 h3 hgls
      have HPN : Hid (_ ∧ _) := PN
      clear f4 p1 p2 p3 hzl hzf
      obtain ⟨f1, f2, f3, f4, ff⟩ := nw_cell PN.1
      obtain ⟨p1, p2, p3⟩ := mc_ends (range_of_mc PN.2.2.1) hxl
      have hzl := loads_cell PN.2.1 he3 (by rw [subAt_length]; exact he4)
      have hzf := frozen_of_row wx gl (to' x).toNat _ 2 PN.2.1
      obtain ⟨z2, hz2⟩ : ∃ z2, z2 = (subAt zs (fr x) (ld x)).getD (to' x).toNat 0 := ⟨_, rfl⟩
      rw [← hz2] at hzl
      have Hz2 : Hid (z2 = _) := hz2
      clear hwx PN HPM Hz f1 f2 f3 ff hz2
      go_wp2_with fail
      go_big_region
      obtain ⟨wv, hwv⟩ : ∃ wv, wv = (wx.setCell ⟨gl, (to' x).toNat, none⟩ (.int .i64 (wrap64 (z2 - ld x)))).drew := ⟨_, rfl⟩
      rw [← hwv]
      have PV := pop_load hwv Hz2.out HPN.out h2 h3 hgls
      have HPV : Hid (_ ∧ _) := PV
      clear f4 p1 p2 p3 hzl hzf HPN Hz2 hwv
      have lm := run_ld40 (range_of_mc PV.2.2.1) hxl
      have sm := run_st40_row PV.2.2.2.1 rfl hxl
      clear PV
      go_wp2
      refine bodyPost_ret (results_cell_row (P := Try.prog) rfl _ _ w.heap.size 40 _ (0, 0) _ rfl (setRow_heap _ _ _ _ 40 (0, 0) HPV.out.2.2.2.1) Try.underlying40 rfl (by rw [Try.size40]; simp [mc_length x hxl])) rfl ⟨rfl, ?_⟩
      rw [HX.out] at HPV
      exact pop_done HPV.out HL.out hL2.out HP.out HF.out hgs hqs hgls
end
end Go.Proofs.Qxb6617920a
