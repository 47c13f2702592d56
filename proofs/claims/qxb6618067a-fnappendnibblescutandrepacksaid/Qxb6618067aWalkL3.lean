/- Seat b6618067a: the law on the cut and the repacking, the source nil. -/
import Derived.Test.Qxb6618067aWalkC
namespace Go.Proofs.Qxb6618067a
open Go.RowKit
set_option linter.unusedSimpArgs false
set_option linter.unusedVariables false

set_option maxRecDepth 100000 in
set_option maxHeartbeats 3200000 in
theorem law3_nil (v0 : Value) (ds : List Int) (k0 : Int) (w : World) (h0 : In w.heap.size w v0 ds) (b0 : Bs ds) (l0 : ds.length ≤ 9223372036854775807) :
    Calls Try.prog 3 #[v0, .slice none 0 0, .int .i64 k0] w fun e w' => e = .returned (.bool true) ∧ Below w.heap.size w w' := by
  obtain ⟨xs, hxs⟩ : ∃ xs : List Int, xs = [] := ⟨_, rfl⟩
  have b1 : Bs xs := by rw [hxs]; intro z hz; simp at hz
  replace hxs : Hid (xs = []) := hxs
  have hln : Hid ((ds ++ nibs xs).length = ds.length) := by show _ = _; rw [hxs.out]; simp [nibs]
  obtain ⟨a0, c0, rfl, -⟩ := h0.form
  replace h0 : Hid (In _ _ _ _) := h0
  go_enter Try.func3, Try.ntmps3
  go_wp2_with fail
  refine (zzBytes5_any a0 none ds.length c0 0 0 k0 _ l0 (by omega)).mono ?_
  rintro e w ⟨t, rfl, rfl⟩
  rcases t with _ | _
  · go_wp2
    go_ret
    exact ⟨rfl, Below.refl _ _⟩
  by_cases k1 : 65536 < ds.length
  · go_wp2
    go_ret
    exact ⟨rfl, Below.refl _ _⟩
  by_cases k3 : k0 < 0
  · go_wp2
    go_ret
    exact ⟨rfl, Below.refl _ _⟩
  by_cases k4 : 0 < k0
  · go_wp2
    go_ret
    exact ⟨rfl, Below.refl _ _⟩
  obtain rfl : k0 = 0 := by omega
  clear k3 k4
  go_wp2_with fail
  refine (clone_any _ _ ds w h0 (Nat.le_refl _) (by omega)).mono ?_
  rintro e w1 ⟨D, rfl, oD, f1⟩
  have iD := In.owned oD
  obtain ⟨aD, cD, rfl, -⟩ := iD.form
  replace iD : Hid (In w1.heap.size w1 (.slice aD ds.length cD) ds) := iD
  have bw1 : Below w.heap.size w w1 := f1
  clear oD f1 h0
  go_wp2_with fail
  refine (clone_nil w1).mono ?_
  rintro e w2 ⟨rfl, rfl⟩
  have iA : Hid (In w2.heap.size w2 (.slice none 0 0) xs) := Or.inl ⟨rfl, hxs.out⟩
  have bw2 : Below w.heap.size w w2 := bw1
  have tk : Hid (xs.take 0 = xs) := by rw [hxs.out]; rfl
  clear bw1
  go_wp2_with fail
  refine (clone_any _ _ ds w2 iD (Nat.le_refl _) (by omega)).mono ?_
  rintro e w3 ⟨E, rfl, oE, f3⟩
  have HE : Hid (w3.ownsRow w2.heap.size 5 1 E ds.length (bv ds)) := oE
  have xA : Hid (In w2.heap.size w3 (.slice none 0 0) xs) := iA.out.below f3
  clear oE
  go_wp2_with fail
  refine (zzappend_any w2.heap.size _ ds _ xs w3 HE xA f3.size b1 (by omega) (by rw [hxs.out]; simp)).mono ?_
  rintro e w4 ⟨W, rfl, oW, f4⟩
  replace f4 : Below w2.heap.size w2 w4 := f3.trans f4
  have iW := In.owned oW
  obtain ⟨aW, cW, rfl, -⟩ := iW.form
  replace iW : Hid (In w4.heap.size w4 (.slice aW (ds ++ nibs xs).length cW) (ds ++ nibs xs)) := iW
  replace iA : Hid (In w4.heap.size w4 (.slice none 0 0) xs) := iA.out.up3 f4
  replace iD : Hid (In w4.heap.size w4 (.slice aD ds.length cD) ds) := iD.out.up3 f4
  have bw4 : Below w.heap.size w w4 := bw2.trans (f4.mono bw2.size)
  clear oW f4 f3 bw2 HE xA
  rw [hln.out]
  go_wp2_with fail
  have U0 : Hid (Below w4.heap.size w4 w4.drew) := (Below.refl _ _).drew
  have U6 : Hid (∀ V : World, Below w4.heap.size w4 V → Calls Try.prog 6 #[.slice aD ds.length cD] V fun e w' => ∃ v', e = .returned v' ∧ w'.ownsRow V.heap.size 5 1 v' ds.length (bv ds) ∧ Below V.heap.size V w') := fun V h => clone_any _ _ ds V (iD.out.below h) h.size (by omega)
  have U7 : Hid (∀ (V V' : World) (v : Value), Below w4.heap.size w4 V → Below V.heap.size V V' → V'.ownsRow V.heap.size 5 1 v ds.length (bv ds) → Calls Try.prog 7 #[v, .slice none 0 0] V' fun e w' => ∃ v', e = .returned v' ∧ w'.ownsRow V.heap.size 5 1 v' (ds ++ nibs xs).length (bv (ds ++ nibs xs)) ∧ Below V.heap.size V' w') := fun V V' v h h' ho => zzappend_any V.heap.size v ds _ xs V' ho (((iA.out).below h).mono h.size |>.below h') h'.size b1 (by omega) (by rw [hxs.out]; simp)
  have UL : Hid (∀ (V V' : World), Below w4.heap.size w4 V → Below w4.heap.size V V' → Below w4.heap.size w4 V') := fun V V' h b => h.trans b
  have UK : Hid (∀ (V V' : World), Below w4.heap.size w4 V → Below V.heap.size V V' → Below w4.heap.size w4 V') := fun V V' h b => h.trans (b.mono h.size)
  go_region_held3 (fun V => Below w4.heap.size w4 V)
    (first | assumption | exact U0.out | exact UK.out _ _ (by assumption) hc | exact UL.out _ _ (by assumption) hd | exact UL.out _ _ (UK.out _ _ (by assumption) hc) hd)
    (first
      | (go_at_call 6; refine (U6.out _ (by assumption)).mono ?_; rintro e w5 ⟨F, rfl, oF, hc⟩)
      | (go_at_call 7; refine (U7.out _ _ _ U0.out hc oF).mono ?_; rintro e w6 ⟨Mi, rfl, oM, hd⟩))
  have bM : Below w4.heap.size w4 w6 := UL.out w5 w6 (UK.out w4.drew w5 U0.out hc) hd
  have HM : Hid (w6.ownsRow w4.heap.size 5 1 Mi (ds ++ nibs xs).length (bv (ds ++ nibs xs))) := oM
  have C7 : Hid (∀ vs, In w4.heap.size w6 vs (xs.drop 0) → Calls Try.prog 7 #[Mi, vs] w6 fun e w' => ∃ v', e = .returned v' ∧ w'.ownsRow w4.heap.size 5 1 v' (ds ++ nibs xs).length (bv (ds ++ nibs xs)) ∧ Below w4.heap.size w6 w') := fun vs hi => by
    have := zzappend_any w4.heap.size Mi (ds ++ nibs xs) vs (xs.drop 0) w6 HM hi bM.size (by simpa using b1) (by rw [hln.out]; omega) (by rw [hxs.out]; simp)
    rwa [show ds ++ nibs xs ++ nibs (xs.drop 0) = ds ++ nibs xs by rw [hxs.out]; simp [nibs]] at this
  have xA2 : Hid (In w4.heap.size w6 (.slice none 0 0) (xs.drop 0)) := Or.inl ⟨rfl, by rw [hxs.out]; rfl⟩
  clear oM oF hc hd U0 U6 U7 UK UL HM
  go_wp2_with fail
  refine (C7.out _ xA2).mono ?_
  clear C7 xA2
  rintro e w7 ⟨J, rfl, oJ, f7⟩
  have iJ := In.owned oJ
  obtain ⟨aJ, cJ, rfl, -⟩ := iJ.form
  have tJ := iJ.at3
  have b7 : Below w4.heap.size w4 w7 := bM.trans f7
  have tW := (iW.out.up3 b7).at3
  have tA := (iA.out.up3 b7).at3
  have tD := (iD.out.up3 b7).at3
  have bw7 : Below w.heap.size w w7 := bw4.trans (b7.mono bw4.size)
  have C8 : Hid (Calls Try.prog 8 _ _ _) := equal_same aW aJ cW cJ (ds ++ nibs xs) w7 tW tJ (by rw [hln.out]; omega)
  rw [hln.out] at C8
  rw [hln.out]
  clear oJ iJ tJ b7 f7 iW iA iD bw4 bM
  go_wp2_with fail
  refine C8.out.mono ?_
  clear C8
  rintro e w8 ⟨rfl, f8⟩
  replace tW : Hid (At w8.heap.size w8 aW (ds ++ nibs xs)) := tW.up f8
  replace tA : Hid (At w8.heap.size w8 none xs) := tA.up f8
  replace tD : Hid (At w8.heap.size w8 aD ds) := tD.up f8
  have bw8 : Below w.heap.size w w8 := bw7.trans (f8.mono bw7.size)
  clear f8 bw7
  go_wp2
  go_loopw [11] (fun x wr => ∃ i : Nat, x = .int .i64 i ∧ i ≤ ds.length ∧ Below w8.heap.size w8 wr) (fun x _ => ds.length - (intOf x).toNat)
  case atStart => exact ⟨0, rfl, Nat.zero_le _, Below.refl _ _⟩
  case round =>
    obtain ⟨i, rfl, hi, hbl⟩ := hrel
    by_cases hlt : i < ds.length
    · have hi2 : (i : Int) < (ds.length : Int) := by omega
      obtain ⟨bW, oW, rfl, y1⟩ := tW.out.cell hbl (k := i) (by rw [hln.out]; omega)
      obtain ⟨bD, oD, rfl, y2⟩ := tD.out.cell hbl (k := i) hlt
      rw [pre_get hlt] at y1
      obtain ⟨z, hz⟩ : ∃ z, z = ds.getD i 0 := ⟨_, rfl⟩
      rw [← hz] at y1 y2
      clear tW tA tD hz
      go_wp2_with fail
      go_quiet (fail)
      go_wp2
      go_roundw
      case rel => exact ⟨i + 1, by go_num, by omega, below_drewN hbl _⟩
      case measure => simp [intOf]; omega
    · go_wp2
      go_loopw [12] (fun x wv => x = .int .i64 0 ∧ Below w8.heap.size w8 wv) (fun x _ => 0)
      case atStart => exact ⟨rfl, hbl⟩
      case round =>
        obtain ⟨rfl, hbv⟩ := hrel
        go_wp2
        go_ret
        exact ⟨rfl, bw8.trans (hbv.mono bw8.size)⟩

/-- The law. -/
theorem law3_any (v0 v1 : Value) (ds xs : List Int) (k0 : Int) (w : World) (h0 : In w.heap.size w v0 ds) (h1 : In w.heap.size w v1 xs) (b0 : Bs ds) (b1 : Bs xs) (l0 : ds.length ≤ 9223372036854775807) (l1 : xs.length ≤ 9223372036854775807) :
    Calls Try.prog 3 #[v0, v1, .int .i64 k0] w fun e w' => e = .returned (.bool true) ∧ Below w.heap.size w w' := by
  have h1' := h1
  rcases h1 with ⟨rfl, rfl⟩ | ⟨x, cap, rfl, _⟩
  · exact law3_nil v0 ds k0 w h0 b0 l0
  · exact law3_some v0 x cap ds xs k0 w h0 h1' b0 b1 l0 l1
end Go.Proofs.Qxb6618067a
