/- Seat b6618067a: the law on the cut and the repacking: the walk. -/
import Derived.Test.Qxb6618067aWalkB
import Derived.Deep.RegionHeld3
namespace Go.Proofs.Qxb6618067a
open Go.RowKit
set_option linter.unusedSimpArgs false
set_option linter.unusedVariables false

theorem In.at3 {B : Nat} {w : World} {a : Option Addr} {n cap : Nat} {zs : List Int} (h : In B w (.slice a n cap) zs) : At B w a zs := by
  obtain ⟨a', c', e, h'⟩ := h.form
  simp at e
  obtain ⟨rfl, rfl, rfl⟩ := e
  exact h'
theorem len_nibs3 (ds xs : List Int) : (ds ++ nibs xs).length = ds.length + 2 * xs.length := by simp [nibs_length]
theorem In.up3 {w w' : World} {v : Value} {zs : List Int} (h : In w.heap.size w v zs) (b : Below w.heap.size w w') : In w'.heap.size w' v zs := (h.below b).mono b.size
theorem In.take {B : Nat} {w : World} {a : Option Addr} {n cap : Nat} {zs : List Int} (h : In B w (.slice a n cap) zs) {k : Nat} (hk : k ≤ zs.length) : In B w (.slice a k cap) (zs.take k) := by
  have hl : (zs.take k).length = k := by simp; omega
  rcases h with ⟨e, rfl⟩ | ⟨x, c, e, h1, h2, h3⟩
  · simp at e hk
    obtain ⟨rfl, rfl, rfl⟩ := e
    subst hk
    exact Or.inl ⟨rfl, rfl⟩
  · simp at e
    obtain ⟨rfl, rfl, rfl⟩ := e
    refine Or.inr ⟨x, cap, by rw [hl], by omega, h2, fun hz => ?_⟩
    obtain ⟨b, off, rfl, h4, h5⟩ := h3 (by omega)
    exact ⟨b, off, rfl, h4, fun j v hv => h5 j v (by
      have hj : j < (bv (zs.take k)).length := (List.getElem?_eq_some_iff.1 hv).1
      rw [bv_length, hl] at hj
      rw [← hv, bv_get (by omega), bv_get (by omega)]
      simp [List.getD_eq_getElem?_getD, hj])⟩
theorem In.drop {B : Nat} {w : World} {g off n cap : Nat} {zs : List Int} (h : In B w (.slice (some ⟨g, off, none⟩) n cap) zs) {k : Nat} (hk : k ≤ zs.length) : In B w (.slice (some ⟨g, off + k, none⟩) (n - k) (cap - k)) (zs.drop k) := by
  rcases h with ⟨e, _⟩ | ⟨x, c, e, h1, h2, h3⟩
  · simp at e
  · simp at e
    obtain ⟨rfl, rfl, rfl⟩ := e
    refine Or.inr ⟨⟨g, off + k, none⟩, cap - k, by simp, by simp; omega, by omega, fun hz => ?_⟩
    simp at hz
    obtain ⟨b, o, e, h4, h5⟩ := h3 (by omega)
    simp at e
    obtain ⟨rfl, rfl⟩ := e
    refine ⟨g, off + k, rfl, h4, fun j v hv => ?_⟩
    have := h5 (k + j) v (by rw [← hv]; simp [bv])
    rwa [show off + k + j = off + (k + j) by omega]
theorem cutDrop (ds xs : List Int) (k : Nat) : ds ++ nibs (xs.take k) ++ nibs (xs.drop k) = ds ++ nibs xs := by
  rw [List.append_assoc, ← nibs_append, List.take_append_drop]
theorem pre_get {ds ns : List Int} {i : Nat} (h : i < ds.length) : (ds ++ ns).getD i 0 = ds.getD i 0 := by simp [List.getD_eq_getElem?_getD, List.getElem?_append_left h]
theorem post_get (ds ns : List Int) (i : Nat) : (ds ++ ns).getD (ds.length + i) 0 = ns.getD i 0 := by simp [List.getD_eq_getElem?_getD, List.getElem?_append_right]
theorem At.up {w w' : World} {a : Option Addr} {zs : List Int} (h : At w.heap.size w a zs) (b : Below w.heap.size w w') : At w'.heap.size w' a zs := fun hz => by
  obtain ⟨g, off, e, h1, h2⟩ := h hz
  exact ⟨g, off, e, Nat.lt_of_lt_of_le h1 b.size, fun j v hv => by rw [b.cell (p := ⟨g, off + j, none⟩) h1]; exact h2 j v hv⟩

set_option maxRecDepth 100000 in
set_option maxHeartbeats 3200000 in
theorem law3_some (v0 : Value) (x1 : Addr) (c1 : Nat) (ds xs : List Int) (k0 : Int) (w : World) (h0 : In w.heap.size w v0 ds) (h1 : In w.heap.size w (.slice (some x1) xs.length c1) xs) (b0 : Bs ds) (b1 : Bs xs) (l0 : ds.length ≤ 9223372036854775807) (l1 : xs.length ≤ 9223372036854775807) :
    Calls Try.prog 3 #[v0, .slice (some x1) xs.length c1, .int .i64 k0] w fun e w' => e = .returned (.bool true) ∧ Below w.heap.size w w' := by
  obtain ⟨a0, c0, rfl, -⟩ := h0.form
  replace h0 : Hid (In _ _ _ _) := h0
  replace h1 : Hid (In _ _ _ _) := h1
  go_enter Try.func3, Try.ntmps3
  go_wp2_with fail
  refine (zzBytes5_any a0 (some x1) ds.length c0 xs.length c1 k0 _ l0 l1).mono ?_
  rintro e w ⟨t, rfl, rfl⟩
  rcases t with _ | _
  · go_wp2
    go_ret
    exact ⟨rfl, Below.refl _ _⟩
  by_cases k1 : 65536 < ds.length
  · go_wp2
    go_ret
    exact ⟨rfl, Below.refl _ _⟩
  by_cases k2 : 65536 < xs.length
  · go_wp2
    go_ret
    exact ⟨rfl, Below.refl _ _⟩
  by_cases k3 : k0 < 0
  · go_wp2
    go_ret
    exact ⟨rfl, Below.refl _ _⟩
  by_cases k4 : (xs.length : Int) < k0
  · go_wp2
    go_ret
    exact ⟨rfl, Below.refl _ _⟩
  obtain ⟨k, rfl⟩ : ∃ k : Nat, k0 = (k : Int) := ⟨k0.toNat, by omega⟩
  have hk : k ≤ xs.length := by omega
  have hki : (k : Int) ≤ (xs.length : Int) := by omega
  clear k3 k4
  go_wp2_with fail
  refine (clone_any _ _ ds w h0 (Nat.le_refl _) (by omega)).mono ?_
  rintro e w1 ⟨D, rfl, oD, f1⟩
  have iD := In.owned oD
  obtain ⟨aD, cD, rfl, -⟩ := iD.form
  replace iD : Hid (In w1.heap.size w1 (.slice aD ds.length cD) ds) := iD
  have g1 : Hid (In w1.heap.size w1 (.slice (some x1) xs.length c1) xs) := h1.out.up3 f1
  have bw1 : Below w.heap.size w w1 := f1
  clear oD f1 h0 h1
  go_wp2_with fail
  refine (clone_some x1 c1 xs w1 (by rcases g1.out with ⟨e, _⟩ | ⟨x, c, e, h1, h2, h3⟩ <;> simp at e; obtain ⟨rfl, rfl⟩ := e; exact h3) (by omega)).mono ?_
  rintro e w2 ⟨rfl, oA, f2⟩
  obtain ⟨gA, hgA⟩ : ∃ gA, gA = w1.heap.size := ⟨_, rfl⟩
  rw [← hgA] at oA ⊢
  have iA : Hid (In w2.heap.size w2 (.slice (some ⟨gA, 0, none⟩) xs.length xs.length) xs) := In.owned oA
  replace iD : Hid (In w2.heap.size w2 (.slice aD ds.length cD) ds) := iD.out.up3 f2
  have bw2 : Below w.heap.size w w2 := bw1.trans (f2.mono bw1.size)
  clear oA f2 g1 bw1 hgA
  go_wp2_with fail
  refine (clone_any _ _ ds w2 iD (Nat.le_refl _) (by omega)).mono ?_
  rintro e w3 ⟨E, rfl, oE, f3⟩
  have HE : Hid (w3.ownsRow w2.heap.size 5 1 E ds.length (bv ds)) := oE
  have xA : Hid (In w2.heap.size w3 (.slice (some ⟨gA, 0, none⟩) xs.length xs.length) xs) := iA.out.below f3
  clear oE
  go_wp2_with fail
  refine (zzappend_any w2.heap.size _ ds _ xs w3 HE xA f3.size b1 (by omega) (by omega)).mono ?_
  rintro e w4 ⟨W, rfl, oW, f4⟩
  replace f4 : Below w2.heap.size w2 w4 := f3.trans f4
  have iW := In.owned oW
  obtain ⟨aW, cW, rfl, -⟩ := iW.form
  replace iW : Hid (In w4.heap.size w4 (.slice aW (ds ++ nibs xs).length cW) (ds ++ nibs xs)) := iW
  replace iA : Hid (In w4.heap.size w4 (.slice (some ⟨gA, 0, none⟩) xs.length xs.length) xs) := iA.out.up3 f4
  replace iD : Hid (In w4.heap.size w4 (.slice aD ds.length cD) ds) := iD.out.up3 f4
  have bw4 : Below w.heap.size w w4 := bw2.trans (f4.mono bw2.size)
  clear oW f4 f3 bw2 HE xA
  rw [len_nibs3 ds xs]
  go_wp2_with fail
  have U0 : Hid (Below w4.heap.size w4 w4.drew) := (Below.refl _ _).drew
  have U6 : Hid (∀ V : World, Below w4.heap.size w4 V → Calls Try.prog 6 #[.slice aD ds.length cD] V fun e w' => ∃ v', e = .returned v' ∧ w'.ownsRow V.heap.size 5 1 v' ds.length (bv ds) ∧ Below V.heap.size V w') := fun V h => clone_any _ _ ds V (iD.out.below h) h.size (by omega)
  have U7 : Hid (∀ (V V' : World) (v : Value), Below w4.heap.size w4 V → Below V.heap.size V V' → V'.ownsRow V.heap.size 5 1 v ds.length (bv ds) → Calls Try.prog 7 #[v, .slice (some ⟨gA, 0, none⟩) k xs.length] V' fun e w' => ∃ v', e = .returned v' ∧ w'.ownsRow V.heap.size 5 1 v' (ds ++ nibs (xs.take k)).length (bv (ds ++ nibs (xs.take k))) ∧ Below V.heap.size V' w') := fun V V' v h h' ho => zzappend_any V.heap.size v ds _ (xs.take k) V' ho (((iA.out.take hk).below h).mono h.size |>.below h') h'.size (bs_take b1 _) (by omega) (by simp; omega)
  have UL : Hid (∀ (V V' : World), Below w4.heap.size w4 V → Below w4.heap.size V V' → Below w4.heap.size w4 V') := fun V V' h b => h.trans b
  have UK : Hid (∀ (V V' : World), Below w4.heap.size w4 V → Below V.heap.size V V' → Below w4.heap.size w4 V') := fun V V' h b => h.trans (b.mono h.size)
  go_region_held3 (fun V => Below w4.heap.size w4 V)
    (first | assumption | exact U0.out | exact UK.out _ _ (by assumption) hc | exact UL.out _ _ (by assumption) hd | exact UL.out _ _ (UK.out _ _ (by assumption) hc) hd)
    (first
      | (go_at_call 6; refine (U6.out _ (by assumption)).mono ?_; rintro e w5 ⟨F, rfl, oF, hc⟩)
      | (go_at_call 7; refine (U7.out _ _ _ U0.out hc oF).mono ?_; rintro e w6 ⟨Mi, rfl, oM, hd⟩))
  have bM : Below w4.heap.size w4 w6 := UL.out w5 w6 (UK.out w4.drew w5 U0.out hc) hd
  have HM : Hid (w6.ownsRow w4.heap.size 5 1 Mi (ds ++ nibs (xs.take k)).length (bv (ds ++ nibs (xs.take k)))) := oM
  have C7 : Hid (∀ vs, In w4.heap.size w6 vs (xs.drop k) → Calls Try.prog 7 #[Mi, vs] w6 fun e w' => ∃ v', e = .returned v' ∧ w'.ownsRow w4.heap.size 5 1 v' (ds ++ nibs xs).length (bv (ds ++ nibs xs)) ∧ Below w4.heap.size w6 w') := fun vs hi => by
    have := zzappend_any w4.heap.size Mi (ds ++ nibs (xs.take k)) vs (xs.drop k) w6 HM hi bM.size (bs_drop b1 _) (by rw [len_nibs3]; simp; omega) (by simp; omega)
    rwa [cutDrop] at this
  have xA2 : Hid (In w4.heap.size w6 (.slice (some ⟨gA, 0 + k, none⟩) (xs.length - k) (xs.length - k)) (xs.drop k)) := (iA.out.drop hk).below bM
  clear oM oF hc hd U0 U6 U7 UK UL HM
  go_wp2_with fail
  · subst h
    refine (C7.out _ (Or.inr ⟨⟨gA, 0, none⟩, 0, by simp, by simp, by simp, fun hz => by simp at hz⟩)).mono ?_
    clear C7 xA2
    rintro e w7 ⟨J, rfl, oJ, f7⟩
    have iJ := In.owned oJ
    obtain ⟨aJ, cJ, rfl, -⟩ := iJ.form
    have tJ := iJ.at3
    have b7 : Below w4.heap.size w4 w7 := bM.trans f7
    have tW := (iW.out.up3 b7).at3
    have tA := (iA.out.up3 b7).at3
    have tD := (iD.out.up3 b7).at3
    have bw7 : Below w.heap.size w w7 := bw4.trans (b7.mono bw4.size)
    have C8 : Hid (Calls Try.prog 8 _ _ _) := equal_same aW aJ cW cJ (ds ++ nibs xs) w7 tW tJ (by rw [len_nibs3]; omega)
    rw [len_nibs3] at C8
    rw [len_nibs3]
    clear oJ iJ tJ b7 f7 iW iA iD bw4 bM
    go_wp2_with fail
    refine C8.out.mono ?_
    clear C8
    rintro e w8 ⟨rfl, f8⟩
    replace tW : Hid (At w8.heap.size w8 aW (ds ++ nibs xs)) := tW.up f8
    replace tA : Hid (At w8.heap.size w8 (some ⟨gA, 0, none⟩) xs) := tA.up f8
    replace tD : Hid (At w8.heap.size w8 aD ds) := tD.up f8
    have bw8 : Below w.heap.size w w8 := bw7.trans (f8.mono bw7.size)
    clear f8 bw7
    go_wp2
    go_loopw [11] (fun x wr => ∃ i : Nat, x = .int .i64 i ∧ i ≤ ds.length ∧ Below w8.heap.size w8 wr) (fun x _ => ds.length - (intOf x).toNat)
    case atStart => exact ⟨0, rfl, Nat.zero_le _, Below.refl _ _⟩
    case round =>
      obtain ⟨i, rfl, hi, hbl⟩ := hrel
      by_cases hlt : i < ds.length
      · have hi2 : (i : Int) < (ds.length : Int) := by omega
        obtain ⟨bW, oW, rfl, y1⟩ := tW.out.cell hbl (k := i) (by rw [len_nibs3]; omega)
        obtain ⟨bD, oD, rfl, y2⟩ := tD.out.cell hbl (k := i) hlt
        rw [pre_get hlt] at y1
        obtain ⟨z, hz⟩ : ∃ z, z = ds.getD i 0 := ⟨_, rfl⟩
        rw [← hz] at y1 y2
        have hi4 : i < ds.length + 2 * xs.length := by omega
        clear tW tA tD hz
        go_wp2_with fail
        go_quiet (fail)
        go_wp2
        go_roundw
        case rel => exact ⟨i + 1, by go_num, by omega, below_drewN hbl _⟩
        case measure => simp [intOf]; omega
      · go_wp2
        go_loopw [12] (fun x wv => ∃ j : Nat, x = .int .i64 j ∧ j ≤ xs.length ∧ Below w8.heap.size w8 wv) (fun x _ => xs.length - (intOf x).toNat)
        case atStart => exact ⟨0, rfl, Nat.zero_le _, hbl⟩
        case round =>
          obtain ⟨j, rfl, hj, hbv⟩ := hrel
          by_cases hlt2 : j < xs.length
          · have hj2 : (j : Int) < (xs.length : Int) := by omega
            obtain ⟨bW, oW, rfl, y1⟩ := tW.out.cell hbv (k := ds.length + 2 * j) (by rw [len_nibs3]; omega)
            obtain ⟨bW2, oW2, ee, y2⟩ := tW.out.cell hbv (k := ds.length + (2 * j + 1)) (by rw [len_nibs3]; omega)
            simp at ee
            obtain ⟨rfl, rfl⟩ := ee
            obtain ⟨bA, oA, ee, y3⟩ := tA.out.cell hbv (k := j) hlt2
            simp at ee
            obtain ⟨rfl, rfl⟩ := ee
            obtain ⟨n1, n2⟩ := nibs_hi xs j hlt2
            rw [post_get, n1] at y1
            rw [post_get, n2, show ds.length + (2 * j + 1) = ds.length + 2 * j + 1 by omega] at y2
            rw [Nat.zero_add] at y3
            obtain ⟨z0, z1⟩ := bs_get b1 j
            obtain ⟨z, hz⟩ : ∃ z, z = xs.getD j 0 := ⟨_, rfl⟩
            rw [← hz] at y1 y2 y3 z0 z1
            obtain ⟨hi', hh⟩ : ∃ h, h = z / 16 := ⟨_, rfl⟩
            obtain ⟨lo', hlo⟩ : ∃ h, h = z % 16 := ⟨_, rfl⟩
            rw [← hh] at y1
            rw [← hlo] at y2
            have q1 : 0 ≤ hi' := by omega
            have q2 : hi' ≤ 15 := by omega
            have q3 : 0 ≤ lo' := by omega
            have q4 : lo' ≤ 15 := by omega
            obtain rfl : z = hi' * 16 + lo' := by omega
            have i1 : (ds.length : Int) + 2 * (j : Int) < (ds.length : Int) + 2 * (xs.length : Int) := by omega
            have i2 : (ds.length : Int) + 2 * (j : Int) + 1 < (ds.length : Int) + 2 * (xs.length : Int) := by omega
            clear tW tA tD hz n1 n2 hh hlo
            go_wp2
            go_roundw
            case rel => exact ⟨j + 1, by go_num, by omega, hbv⟩
            case measure => simp [intOf]; omega
          · go_wp2
            go_ret
            exact ⟨rfl, bw8.trans (hbv.mono bw8.size)⟩
  · refine (C7.out _ (by simpa using xA2.out)).mono ?_
    clear C7 xA2
    rintro e w7 ⟨J, rfl, oJ, f7⟩
    have iJ := In.owned oJ
    obtain ⟨aJ, cJ, rfl, -⟩ := iJ.form
    have tJ := iJ.at3
    have b7 : Below w4.heap.size w4 w7 := bM.trans f7
    have tW := (iW.out.up3 b7).at3
    have tA := (iA.out.up3 b7).at3
    have tD := (iD.out.up3 b7).at3
    have bw7 : Below w.heap.size w w7 := bw4.trans (b7.mono bw4.size)
    have C8 : Hid (Calls Try.prog 8 _ _ _) := equal_same aW aJ cW cJ (ds ++ nibs xs) w7 tW tJ (by rw [len_nibs3]; omega)
    rw [len_nibs3] at C8
    rw [len_nibs3]
    clear oJ iJ tJ b7 f7 iW iA iD bw4 bM
    go_wp2_with fail
    refine C8.out.mono ?_
    clear C8
    rintro e w8 ⟨rfl, f8⟩
    replace tW : Hid (At w8.heap.size w8 aW (ds ++ nibs xs)) := tW.up f8
    replace tA : Hid (At w8.heap.size w8 (some ⟨gA, 0, none⟩) xs) := tA.up f8
    replace tD : Hid (At w8.heap.size w8 aD ds) := tD.up f8
    have bw8 : Below w.heap.size w w8 := bw7.trans (f8.mono bw7.size)
    clear f8 bw7
    go_wp2
    go_loopw [11] (fun x wr => ∃ i : Nat, x = .int .i64 i ∧ i ≤ ds.length ∧ Below w8.heap.size w8 wr) (fun x _ => ds.length - (intOf x).toNat)
    case atStart => exact ⟨0, rfl, Nat.zero_le _, Below.refl _ _⟩
    case round =>
      obtain ⟨i, rfl, hi, hbl⟩ := hrel
      by_cases hlt : i < ds.length
      · have hi2 : (i : Int) < (ds.length : Int) := by omega
        obtain ⟨bW, oW, rfl, y1⟩ := tW.out.cell hbl (k := i) (by rw [len_nibs3]; omega)
        obtain ⟨bD, oD, rfl, y2⟩ := tD.out.cell hbl (k := i) hlt
        rw [pre_get hlt] at y1
        obtain ⟨z, hz⟩ : ∃ z, z = ds.getD i 0 := ⟨_, rfl⟩
        rw [← hz] at y1 y2
        have hi4 : i < ds.length + 2 * xs.length := by omega
        clear tW tA tD hz
        go_wp2_with fail
        go_quiet (fail)
        go_wp2
        go_roundw
        case rel => exact ⟨i + 1, by go_num, by omega, below_drewN hbl _⟩
        case measure => simp [intOf]; omega
      · go_wp2
        go_loopw [12] (fun x wv => ∃ j : Nat, x = .int .i64 j ∧ j ≤ xs.length ∧ Below w8.heap.size w8 wv) (fun x _ => xs.length - (intOf x).toNat)
        case atStart => exact ⟨0, rfl, Nat.zero_le _, hbl⟩
        case round =>
          obtain ⟨j, rfl, hj, hbv⟩ := hrel
          by_cases hlt2 : j < xs.length
          · have hj2 : (j : Int) < (xs.length : Int) := by omega
            obtain ⟨bW, oW, rfl, y1⟩ := tW.out.cell hbv (k := ds.length + 2 * j) (by rw [len_nibs3]; omega)
            obtain ⟨bW2, oW2, ee, y2⟩ := tW.out.cell hbv (k := ds.length + (2 * j + 1)) (by rw [len_nibs3]; omega)
            simp at ee
            obtain ⟨rfl, rfl⟩ := ee
            obtain ⟨bA, oA, ee, y3⟩ := tA.out.cell hbv (k := j) hlt2
            simp at ee
            obtain ⟨rfl, rfl⟩ := ee
            obtain ⟨n1, n2⟩ := nibs_hi xs j hlt2
            rw [post_get, n1] at y1
            rw [post_get, n2, show ds.length + (2 * j + 1) = ds.length + 2 * j + 1 by omega] at y2
            rw [Nat.zero_add] at y3
            obtain ⟨z0, z1⟩ := bs_get b1 j
            obtain ⟨z, hz⟩ : ∃ z, z = xs.getD j 0 := ⟨_, rfl⟩
            rw [← hz] at y1 y2 y3 z0 z1
            obtain ⟨hi', hh⟩ : ∃ h, h = z / 16 := ⟨_, rfl⟩
            obtain ⟨lo', hlo⟩ : ∃ h, h = z % 16 := ⟨_, rfl⟩
            rw [← hh] at y1
            rw [← hlo] at y2
            have q1 : 0 ≤ hi' := by omega
            have q2 : hi' ≤ 15 := by omega
            have q3 : 0 ≤ lo' := by omega
            have q4 : lo' ≤ 15 := by omega
            obtain rfl : z = hi' * 16 + lo' := by omega
            have i1 : (ds.length : Int) + 2 * (j : Int) < (ds.length : Int) + 2 * (xs.length : Int) := by omega
            have i2 : (ds.length : Int) + 2 * (j : Int) + 1 < (ds.length : Int) + 2 * (xs.length : Int) := by omega
            clear tW tA tD hz n1 n2 hh hlo
            go_wp2
            go_roundw
            case rel => exact ⟨j + 1, by go_num, by omega, hbv⟩
            case measure => simp [intOf]; omega
          · go_wp2
            go_ret
            exact ⟨rfl, bw8.trans (hbv.mono bw8.size)⟩
end Go.Proofs.Qxb6618067a
