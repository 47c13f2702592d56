/- Seat b6618067a: the bounds laid by program; equalBytes; compareBytes. -/
import Derived.Test.Qxb6618067aWalkA
namespace Go.Proofs.Qxb6618067a
open Go.RowKit
set_option linter.unusedSimpArgs false
set_option linter.unusedVariables false

/-- The bytes zs are read at a. -/
def At (B : Nat) (w : World) (a : Option Addr) (zs : List Int) : Prop := 0 < zs.length → ∃ b off, a = some ⟨b, off, none⟩ ∧ b < B ∧ w.rangeAt b off (bv zs)
theorem In.form {B : Nat} {w : World} {v : Value} {zs : List Int} (h : In B w v zs) : ∃ a cap, v = .slice a zs.length cap ∧ At B w a zs := by
  rcases h with ⟨rfl, rfl⟩ | ⟨x, cap, rfl, h1, h2, h4⟩
  · exact ⟨none, 0, rfl, fun h => by simp at h⟩
  · refine ⟨_, cap, rfl, fun h => ?_⟩
    obtain ⟨b, off, rfl, h5, h6⟩ := h4 h
    exact ⟨b, off, rfl, h5, h6⟩
theorem At.cell {B : Nat} {w w' : World} {a : Option Addr} {zs : List Int} (h : At B w a zs) (bl : Below B w w') {k : Nat} (hk : k < zs.length) : ∃ b off, a = some ⟨b, off, none⟩ ∧ w'.cell? ⟨b, off + k, none⟩ = some (.int .u8 (zs.getD k 0)) := by
  obtain ⟨b, off, rfl, hb, hr⟩ := h (by omega)
  exact ⟨b, off, rfl, by rw [bl.cell (p := ⟨b, off + k, none⟩) hb]; exact hr k _ (bv_get hk)⟩

set_option maxHeartbeats 800000 in
theorem zzBytes5_any (a b : Option Addr) (n1 c1 n2 c2 : Nat) (k : Int) (w : World) (h1 : n1 ≤ 9223372036854775807) (h2 : n2 ≤ 9223372036854775807) :
    Calls Try.prog 5 #[.slice a n1 c1, .slice b n2 c2, .int .i64 k] w fun e w' => ∃ t, e = .returned (.bool t) ∧ w' = w := by
  by_cases k1 : 1048576 < n1
  · go_enter Try.func5, Try.ntmps5
    go_wp2
    go_ret
    exact ⟨_, rfl, rfl⟩
  · by_cases k2 : 1048576 < n2
    · go_enter Try.func5, Try.ntmps5
      go_wp2
      go_ret
      exact ⟨_, rfl, rfl⟩
    · by_cases k3 : 1048576 < n1 + n2
      · go_enter Try.func5, Try.ntmps5
        go_wp2
        go_ret
        exact ⟨_, rfl, rfl⟩
      · go_enter Try.func5, Try.ntmps5
        go_wp2
        go_ret
        exact ⟨_, rfl, rfl⟩
set_option maxHeartbeats 800000 in
theorem zzBytes9_any (a b c : Option Addr) (n1 c1 n2 c2 n3 c3 : Nat) (w : World) (h1 : n1 ≤ 9223372036854775807) (h2 : n2 ≤ 9223372036854775807) (h3 : n3 ≤ 9223372036854775807) :
    Calls Try.prog 9 #[.slice a n1 c1, .slice b n2 c2, .slice c n3 c3] w fun e w' => ∃ t, e = .returned (.bool t) ∧ w' = w := by
  by_cases k1 : 1048576 < n1
  · go_enter Try.func9, Try.ntmps9
    go_wp2
    go_ret
    exact ⟨_, rfl, rfl⟩
  · by_cases k2 : 1048576 < n2
    · go_enter Try.func9, Try.ntmps9
      go_wp2
      go_ret
      exact ⟨_, rfl, rfl⟩
    · by_cases k3 : 1048576 < n1 + n2
      · go_enter Try.func9, Try.ntmps9
        go_wp2
        go_ret
        exact ⟨_, rfl, rfl⟩
      · by_cases k4 : 1048576 < n3
        · go_enter Try.func9, Try.ntmps9
          go_wp2
          go_ret
          exact ⟨_, rfl, rfl⟩
        · by_cases k5 : 1048576 < n1 + n2 + n3
          · go_enter Try.func9, Try.ntmps9
            go_wp2
            go_ret
            exact ⟨_, rfl, rfl⟩
          · go_enter Try.func9, Try.ntmps9
            go_wp2
            go_ret
            exact ⟨_, rfl, rfl⟩

set_option maxHeartbeats 1600000 in
/-- equalBytes over equal bytes. -/
theorem equal_same (a b : Option Addr) (c1 c2 : Nat) (zs : List Int) (w : World) (ha : At w.heap.size w a zs) (hb : At w.heap.size w b zs) (hn : zs.length ≤ 1000000) :
    Calls Try.prog 8 #[.slice a zs.length c1, .slice b zs.length c2] w fun e w' => e = .returned (.bool true) ∧ Below w.heap.size w w' := by
  go_enter Try.func8, Try.ntmps8
  go_wp2
  go_loopw [5] (fun x wr => ∃ (k : Nat), x = .int .i64 k ∧ k ≤ zs.length ∧ Below w.heap.size w wr) (fun x _ => zs.length - (intOf x).toNat)
  case atStart => exact ⟨0, rfl, Nat.zero_le _, Below.refl _ _⟩
  case round =>
    obtain ⟨k, rfl, hk, hbl⟩ := hrel
    by_cases hlt : k < zs.length
    · have hk2 : (k : Int) < (zs.length : Int) := by omega
      obtain ⟨b1, o1, rfl, x1⟩ := ha.cell hbl hlt
      obtain ⟨b2, o2, rfl, x2⟩ := hb.cell hbl hlt
      obtain ⟨z, hz⟩ : ∃ z, z = zs.getD k 0 := ⟨_, rfl⟩
      rw [← hz] at x1 x2
      clear ha hb hz
      go_wp2_with fail
      go_quiet (fail)
      go_wp2
      go_roundw
      case rel => exact ⟨k + 1, by go_num, by omega, below_drewN hbl _⟩
      case measure => simp [intOf]; omega
    · go_wp2
      go_ret
      exact ⟨rfl, hbl⟩

set_option maxHeartbeats 1600000 in
/-- compareBytes. -/
theorem compare_any (a b : Option Addr) (c1 c2 : Nat) (xs ys : List Int) (w : World) (ha : At w.heap.size w a xs) (hb : At w.heap.size w b ys) (hn1 : xs.length ≤ 1000000) (hn2 : ys.length ≤ 1000000) :
    Calls Try.prog 10 #[.slice a xs.length c1, .slice b ys.length c2] w fun e w' => e = .returned (.int .i64 (cmp xs ys)) ∧ Below w.heap.size w w' := by
  by_cases kk : ys.length < xs.length
  · have kk2 : ¬ xs.length < ys.length := by omega
    go_enter Try.func10, Try.ntmps10
    go_wp2
    go_loopw [6] (fun x wr => ∃ (k : Nat), x = .int .i64 k ∧ k ≤ ys.length ∧ Hid (cmp xs ys = cmp (xs.drop k) (ys.drop k)) ∧ Below w.heap.size w wr) (fun x _ => ys.length - (intOf x).toNat)
    case atStart => exact ⟨0, rfl, Nat.zero_le _, by show _ = _; simp, Below.refl _ _⟩
    case round =>
      obtain ⟨k, rfl, hk, HE, hbl⟩ := hrel
      by_cases hlt : k < ys.length
      · have hk2 : (k : Int) < (xs.length : Int) := by omega
        have hk3 : (k : Int) < (ys.length : Int) := by omega
        obtain ⟨b1, o1, rfl, x1⟩ := ha.cell hbl (k := k) (by omega)
        obtain ⟨b2, o2, rfl, x2⟩ := hb.cell hbl (k := k) (by omega)
        have HE2 : Hid (cmp xs ys = _) := HE.out.trans (cmp_step (by omega) (by omega))
        obtain ⟨p, hp⟩ : ∃ z, z = xs.getD k 0 := ⟨_, rfl⟩
        obtain ⟨q, hq⟩ : ∃ z, z = ys.getD k 0 := ⟨_, rfl⟩
        rw [← hp] at x1 HE2
        rw [← hq] at x2 HE2
        clear ha hb hp hq HE
        by_cases c1 : p < q
        · go_wp2_with fail
          go_quiet (fail)
          go_wp2
          go_ret
          rw [HE2.out, if_pos c1]
          first | exact ⟨rfl, below_drewN hbl _⟩ | exact ⟨rfl, below_drewN (below_drewN hbl _) _⟩
        · by_cases c2 : q < p
          · go_wp2_with fail
            go_quiet (fail)
            go_wp2_with fail
            go_quiet (fail)
            go_wp2
            go_ret
            rw [HE2.out, if_neg (by omega), if_pos c2]
            first | exact ⟨rfl, below_drewN hbl _⟩ | exact ⟨rfl, below_drewN (below_drewN hbl _) _⟩
          · go_wp2_with fail
            go_quiet (fail)
            go_wp2_with fail
            go_quiet (fail)
            go_wp2
            go_roundw
            case rel => exact ⟨k + 1, by go_num, by omega, by rw [HE2.out, if_neg (by omega), if_neg (by omega)]; exact rfl, below_drewN hbl _⟩
            case measure => simp [intOf]; omega
      · have he := HE.out.trans (cmp_end (by omega))
        rw [if_neg kk2, if_pos kk] at he
        go_wp2
        go_ret
        rw [he]
        exact ⟨rfl, hbl⟩
  · by_cases kk2 : xs.length < ys.length
    · have kk3 : ¬ ys.length < xs.length := kk
      go_enter Try.func10, Try.ntmps10
      go_wp2
      go_loopw [6] (fun x wr => ∃ (k : Nat), x = .int .i64 k ∧ k ≤ xs.length ∧ Hid (cmp xs ys = cmp (xs.drop k) (ys.drop k)) ∧ Below w.heap.size w wr) (fun x _ => xs.length - (intOf x).toNat)
      case atStart => exact ⟨0, rfl, Nat.zero_le _, by show _ = _; simp, Below.refl _ _⟩
      case round =>
        obtain ⟨k, rfl, hk, HE, hbl⟩ := hrel
        by_cases hlt : k < xs.length
        · have hk2 : (k : Int) < (xs.length : Int) := by omega
          have hk3 : (k : Int) < (ys.length : Int) := by omega
          obtain ⟨b1, o1, rfl, x1⟩ := ha.cell hbl (k := k) (by omega)
          obtain ⟨b2, o2, rfl, x2⟩ := hb.cell hbl (k := k) (by omega)
          have HE2 : Hid (cmp xs ys = _) := HE.out.trans (cmp_step (by omega) (by omega))
          obtain ⟨p, hp⟩ : ∃ z, z = xs.getD k 0 := ⟨_, rfl⟩
          obtain ⟨q, hq⟩ : ∃ z, z = ys.getD k 0 := ⟨_, rfl⟩
          rw [← hp] at x1 HE2
          rw [← hq] at x2 HE2
          clear ha hb hp hq HE
          by_cases c1 : p < q
          · go_wp2_with fail
            go_quiet (fail)
            go_wp2
            go_ret
            rw [HE2.out, if_pos c1]
            first | exact ⟨rfl, below_drewN hbl _⟩ | exact ⟨rfl, below_drewN (below_drewN hbl _) _⟩
          · by_cases c2 : q < p
            · go_wp2_with fail
              go_quiet (fail)
              go_wp2_with fail
              go_quiet (fail)
              go_wp2
              go_ret
              rw [HE2.out, if_neg (by omega), if_pos c2]
              first | exact ⟨rfl, below_drewN hbl _⟩ | exact ⟨rfl, below_drewN (below_drewN hbl _) _⟩
            · go_wp2_with fail
              go_quiet (fail)
              go_wp2_with fail
              go_quiet (fail)
              go_wp2
              go_roundw
              case rel => exact ⟨k + 1, by go_num, by omega, by rw [HE2.out, if_neg (by omega), if_neg (by omega)]; exact rfl, below_drewN hbl _⟩
              case measure => simp [intOf]; omega
        · have he := HE.out.trans (cmp_end (by omega))
          rw [if_pos kk2] at he
          go_wp2
          go_ret
          rw [he]
          exact ⟨rfl, hbl⟩
    · have kk3 : xs.length ≤ ys.length := by omega
      have kk4 : ys.length ≤ xs.length := by omega
      go_enter Try.func10, Try.ntmps10
      go_wp2
      go_loopw [6] (fun x wr => ∃ (k : Nat), x = .int .i64 k ∧ k ≤ xs.length ∧ Hid (cmp xs ys = cmp (xs.drop k) (ys.drop k)) ∧ Below w.heap.size w wr) (fun x _ => xs.length - (intOf x).toNat)
      case atStart => exact ⟨0, rfl, Nat.zero_le _, by show _ = _; simp, Below.refl _ _⟩
      case round =>
        obtain ⟨k, rfl, hk, HE, hbl⟩ := hrel
        by_cases hlt : k < xs.length
        · have hk2 : (k : Int) < (xs.length : Int) := by omega
          have hk3 : (k : Int) < (ys.length : Int) := by omega
          obtain ⟨b1, o1, rfl, x1⟩ := ha.cell hbl (k := k) (by omega)
          obtain ⟨b2, o2, rfl, x2⟩ := hb.cell hbl (k := k) (by omega)
          have HE2 : Hid (cmp xs ys = _) := HE.out.trans (cmp_step (by omega) (by omega))
          obtain ⟨p, hp⟩ : ∃ z, z = xs.getD k 0 := ⟨_, rfl⟩
          obtain ⟨q, hq⟩ : ∃ z, z = ys.getD k 0 := ⟨_, rfl⟩
          rw [← hp] at x1 HE2
          rw [← hq] at x2 HE2
          clear ha hb hp hq HE
          by_cases c1 : p < q
          · go_wp2_with fail
            go_quiet (fail)
            go_wp2
            go_ret
            rw [HE2.out, if_pos c1]
            first | exact ⟨rfl, below_drewN hbl _⟩ | exact ⟨rfl, below_drewN (below_drewN hbl _) _⟩
          · by_cases c2 : q < p
            · go_wp2_with fail
              go_quiet (fail)
              go_wp2_with fail
              go_quiet (fail)
              go_wp2
              go_ret
              rw [HE2.out, if_neg (by omega), if_pos c2]
              first | exact ⟨rfl, below_drewN hbl _⟩ | exact ⟨rfl, below_drewN (below_drewN hbl _) _⟩
            · go_wp2_with fail
              go_quiet (fail)
              go_wp2_with fail
              go_quiet (fail)
              go_wp2
              go_roundw
              case rel => exact ⟨k + 1, by go_num, by omega, by rw [HE2.out, if_neg (by omega), if_neg (by omega)]; exact rfl, below_drewN hbl _⟩
              case measure => simp [intOf]; omega
        · have he := HE.out.trans (cmp_end (by omega))
          rw [if_neg kk2, if_neg kk] at he
          go_wp2
          go_ret
          rw [he]
          exact ⟨rfl, hbl⟩
end Go.Proofs.Qxb6618067a
