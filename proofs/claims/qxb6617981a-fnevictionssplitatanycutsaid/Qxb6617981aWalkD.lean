/- Seat b6617981a: evictions. -/
import Derived.Test.Qxb6617981aWalkC
namespace Go.Proofs.Qxb6617981a
open Go.RowKit
set_option linter.unusedSimpArgs false
set_option linter.unusedVariables false

theorem ev_step (u : Bool) {ls : List (List Int)} {k : Nat} (h : k < ls.length) (need pods : Int) :
    ev u need (ls.drop k) pods = if 0 < fr u (gl ls k) ∧ cdiv need (fr u (gl ls k)) ≤ ct (gl ls k) then (pods + cdiv need (fr u (gl ls k)), false) else ev u (need - fr u (gl ls k) * ct (gl ls k)) (ls.drop (k + 1)) (pods + ct (gl ls k)) := by
  rw [drop_gl h]; rfl
theorem tot_drop {ls : List (List Int)} {k : Nat} (h : k < ls.length) : tot (ls.drop k) = ct (gl ls k) + tot (ls.drop (k + 1)) := by
  rw [drop_gl h]; rfl

set_option maxHeartbeats 400000 in
theorem evictions_off (av tg : Int) (u : Bool) (a : Option Addr) (n cap : Nat) (w : World) :
    Calls Try.prog 18 #[.int .i64 av, .bool false, .int .i64 tg, .slice a n cap, .bool u] w fun e w' => e = .returned (.tuple #[.int .i64 0, .bool false]) ∧ w' = w := by
  go_enter Try.func18, Try.ntmps18
  go_wp2
  go_ret2
  exact ⟨rfl, rfl⟩

theorem wrap_need {tg av : Int} (h1 : -9223372036854775807 ≤ av) (h2 : av < tg) (h3 : tg ≤ 9223372036854775807) : IntKind.u64.wrap (IntKind.u64.wrap tg - IntKind.u64.wrap av) = tg - av := by
  rw [IntKind.wrap_u64, IntKind.wrap_u64, IntKind.wrap_u64]; omega

section
attribute [local go_sem ↓] exec_ld50 exec_st50
set_option maxHeartbeats 3200000 in
set_option maxRecDepth 100000 in
theorem evictions_on (av tg : Int) (u : Bool) (a : Option Addr) (cap : Nat) (ls : List (List Int)) (hg : Good ls) (h1 : -9223372036854775807 ≤ av) (h2 : av < tg) (h3 : tg ≤ 9223372036854775807) (w : World) (hr : RowP w a ls) (hn : ls.length ≤ 1000000) :
    Calls Try.prog 18 #[.int .i64 av, .bool true, .int .i64 tg, .slice a ls.length cap, .bool u] w fun e w' => e = .returned (.tuple #[.int .i64 (ev u (tg - av) ls 0).1, .bool (ev u (tg - av) ls 0).2]) ∧ Below w.heap.size w w' := by
  have HG : Hid (Good ls) := hg
  clear hg
  obtain ⟨need0, hneed⟩ : ∃ need0, need0 = tg - av := ⟨_, rfl⟩
  rw [← hneed]
  have hn0 : 0 < need0 := by omega
  have hn1 : need0 ≤ 18446744073709551615 := by omega
  have HND : Hid (need0 = tg - av) := hneed
  clear hneed
  go_enter Try.func18, Try.ntmps18
  go_wp2_with fail
  rw [wrap_need h1 h2 h3, ← HND.out]
  clear HND
  go_loopw [10, 12, 26] (fun pd nd i wr => ∃ (k : Nat) (pods need : Int), pd = .int .i64 pods ∧ nd = .int .u64 need ∧ i = .int .i64 k ∧ k ≤ ls.length ∧ 0 ≤ pods ∧ 0 < need ∧ need ≤ 18446744073709551615 ∧ pods + tot (ls.drop k) ≤ 9223372036854775807 ∧ True ∧ Hid (ev u need (ls.drop k) pods = ev u need0 ls 0) ∧ Below w.heap.size w wr) (fun _ _ i _ => ls.length - (intOf i).toNat)
  case atStart => exact ⟨0, 0, need0, rfl, rfl, rfl, Nat.zero_le _, by omega, hn0, hn1, by have := HG.out.2; simpa using this, trivial, rfl, Below.refl _ _⟩
  case round =>
    obtain ⟨k, pods, need, rfl, rfl, rfl, hk, hp0, hd0, hd1, htl, HT, HE, hb⟩ := hrel
    by_cases hlt : k < ls.length
    · have hk2 : (k : Int) < (ls.length : Int) := by omega
      rcases hr with rfl | ⟨b, off, rfl, hr⟩
      · simp at hlt
      have hrk := rangeAt_below hb (hr k hlt) (rowsP_lt hr (by omega))
      have hld := run_ld50 hrk
      have hok : Ok (gl ls k) := HG.out.1 _ (gl_mem hlt)
      have hst := ev_step u hlt need pods
      have htd := tot_drop hlt
      have htn := tot_nonneg (ls.drop (k + 1)) (fun y hy => HG.out.1 y (List.mem_of_mem_drop hy))
      rw [htd] at htl
      obtain ⟨x, hx⟩ : ∃ x, x = gl ls k := ⟨_, rfl⟩
      rw [← hx] at hld hok hst htl
      have hsn := fun old ho => run_st50_new (w := wr) (old := old) (l := x) ho
      have m1 : (pc x)[1]? = some (.int .i64 (us x)) := rfl
      have m2 : (pc x)[2]? = some (.int .i64 (un x)) := rfl
      have m9 : (pc x)[9]? = some (.int .i64 (ct x)) := rfl
      obtain ⟨o1, o2, hc0, o4⟩ := hok
      obtain ⟨p, hp⟩ : ∃ p, p = us x := ⟨_, rfl⟩
      obtain ⟨q, hq⟩ : ∃ q, q = un x := ⟨_, rfl⟩
      obtain ⟨c, hc⟩ : ∃ c, c = ct x := ⟨_, rfl⟩
      rw [← hp] at m1 o1 o4
      rw [← hq] at m2 o2 o4
      rw [← hc] at m9 hc0 hst htl
      have HP : Hid (us x = p) := hp.symm
      have HQ : Hid (un x = q) := hq.symm
      have hbx := hb.alloc hb.size (.cells (pc x).toArray 50)
      obtain ⟨tl, htl2⟩ : ∃ tl, tl = tot (ls.drop (k + 1)) := ⟨_, rfl⟩
      rw [← htl2] at htl htn
      have HTL : Hid (tl = tot (ls.drop (k + 1))) := htl2
      have HST : Hid (ev u need (ls.drop k) pods = _) := hst
      clear hx hrk hr hp hq hc hst htd htl2 HT
      rcases u with _ | _
      · have hF : fr false x = p := by simp [fr, HP.out, HQ.out]
        have HS := HST.out
        rw [hF] at HS
        have hf0 : 0 ≤ p := by omega
        have hf1 : p ≤ 9223372036854775807 := by omega
        have hfc0 : 0 ≤ p * c := Int.mul_nonneg hf0 hc0
        by_cases hf : 0 < p
        · have hq0 : 0 ≤ need / p := Int.ediv_nonneg (by omega) (by omega)
          have hq1 : need / p ≤ need := Int.ediv_le_self _ (by omega)
          by_cases hm : need % p = 0
          · have hmb : (need % p != 0) = false := by simpa using hm
            by_cases hle : need / p ≤ c
            · have HR : Hid (ev false need0 ls 0 = (pods + need / p, false)) := by
                show _ = _
                rw [← HE.out, HS, if_pos ⟨hf, by rw [cdiv, if_pos hm]; exact hle⟩, cdiv, if_pos hm]
              clear hm HS hF HST
              go_wp2
              go_ret2
              rw [HR.out]
              exact ⟨rfl, hbx⟩
            · have HN : Hid (ev false (need - p * c) (ls.drop (k + 1)) (pods + c) = ev false need0 ls 0) := by
                show _ = _
                rw [← HE.out, HS, if_neg (by rw [cdiv, if_pos hm]; omega)]
              have hfc1 : p * c < need := by
                have h1 := Int.emod_add_mul_ediv need (p)
                have h2 : p * c < p * (need / p) := Int.mul_lt_mul_of_pos_left (by omega) hf
                omega
              clear hm HS hF HST
              go_wp2
              go_roundw
              case rel => exact ⟨k + 1, pods + c, need - p * c, rfl, rfl, by go_num, by omega, by omega, by omega, by omega, (by rw [← HTL.out]; omega), trivial, HN.out, hbx⟩
              case measure => simp [intOf]; omega
          · have hmb : (need % p != 0) = true := by simpa using hm
            have hq2 : need / p < 18446744073709551615 := by
              have h1 := Int.emod_add_mul_ediv need (p)
              have h2 := Int.emod_nonneg need (show p ≠ 0 by omega)
              have h3 : 1 * (need / p) ≤ p * (need / p) := Int.mul_le_mul_of_nonneg_right (by omega) hq0
              omega
            by_cases hle : need / p + 1 ≤ c
            · have HR : Hid (ev false need0 ls 0 = (pods + (need / p + 1), false)) := by
                show _ = _
                rw [← HE.out, HS, if_pos ⟨hf, by rw [cdiv, if_neg hm]; exact hle⟩, cdiv, if_neg hm]
              clear hm HS hF HST
              go_wp2
              go_ret2
              rw [HR.out]
              exact ⟨rfl, hbx⟩
            · have HN : Hid (ev false (need - p * c) (ls.drop (k + 1)) (pods + c) = ev false need0 ls 0) := by
                show _ = _
                rw [← HE.out, HS, if_neg (by rw [cdiv, if_neg hm]; omega)]
              have hfc1 : p * c < need := by
                have h1 := Int.emod_add_mul_ediv need (p)
                have h2 := Int.emod_nonneg need (show p ≠ 0 by omega)
                have h3 : p * c ≤ p * (need / p) := Int.mul_le_mul_of_nonneg_left (by omega) hf0
                omega
              clear hm HS hF HST
              go_wp2
              go_roundw
              case rel => exact ⟨k + 1, pods + c, need - p * c, rfl, rfl, by go_num, by omega, by omega, by omega, by omega, (by rw [← HTL.out]; omega), trivial, HN.out, hbx⟩
              case measure => simp [intOf]; omega
        · have hz : p = 0 := by omega
          have hfc2 : p * c = 0 := by rw [hz, Int.zero_mul]
          have HN : Hid (ev false need (ls.drop (k + 1)) (pods + c) = ev false need0 ls 0) := by
            show _ = _
            rw [← HE.out, HS, if_neg (by omega), hfc2, Int.sub_zero]
          clear HS hF HST hz
          go_wp2
          go_roundw
          case rel => exact ⟨k + 1, pods + c, need, rfl, by go_num, by go_num, by omega, by omega, by omega, by omega, (by rw [← HTL.out]; omega), trivial, HN.out, hbx⟩
          case measure => simp [intOf]; omega
      · have hF : fr true x = (p + q) := by simp [fr, HP.out, HQ.out]
        have HS := HST.out
        rw [hF] at HS
        have hf0 : 0 ≤ (p + q) := by omega
        have hf1 : (p + q) ≤ 9223372036854775807 := by omega
        have hfc0 : 0 ≤ (p + q) * c := Int.mul_nonneg hf0 hc0
        by_cases hf : 0 < (p + q)
        · have hq0 : 0 ≤ need / (p + q) := Int.ediv_nonneg (by omega) (by omega)
          have hq1 : need / (p + q) ≤ need := Int.ediv_le_self _ (by omega)
          by_cases hm : need % (p + q) = 0
          · have hmb : (need % (p + q) != 0) = false := by simpa using hm
            by_cases hle : need / (p + q) ≤ c
            · have HR : Hid (ev true need0 ls 0 = (pods + need / (p + q), false)) := by
                show _ = _
                rw [← HE.out, HS, if_pos ⟨hf, by rw [cdiv, if_pos hm]; exact hle⟩, cdiv, if_pos hm]
              clear hm HS hF HST
              go_wp2
              go_ret2
              rw [HR.out]
              exact ⟨rfl, hbx⟩
            · have HN : Hid (ev true (need - (p + q) * c) (ls.drop (k + 1)) (pods + c) = ev true need0 ls 0) := by
                show _ = _
                rw [← HE.out, HS, if_neg (by rw [cdiv, if_pos hm]; omega)]
              have hfc1 : (p + q) * c < need := by
                have h1 := Int.emod_add_mul_ediv need ((p + q))
                have h2 : (p + q) * c < (p + q) * (need / (p + q)) := Int.mul_lt_mul_of_pos_left (by omega) hf
                omega
              clear hm HS hF HST
              go_wp2
              go_roundw
              case rel => exact ⟨k + 1, pods + c, need - (p + q) * c, rfl, rfl, by go_num, by omega, by omega, by omega, by omega, (by rw [← HTL.out]; omega), trivial, HN.out, hbx⟩
              case measure => simp [intOf]; omega
          · have hmb : (need % (p + q) != 0) = true := by simpa using hm
            have hq2 : need / (p + q) < 18446744073709551615 := by
              have h1 := Int.emod_add_mul_ediv need ((p + q))
              have h2 := Int.emod_nonneg need (show (p + q) ≠ 0 by omega)
              have h3 : 1 * (need / (p + q)) ≤ (p + q) * (need / (p + q)) := Int.mul_le_mul_of_nonneg_right (by omega) hq0
              omega
            by_cases hle : need / (p + q) + 1 ≤ c
            · have HR : Hid (ev true need0 ls 0 = (pods + (need / (p + q) + 1), false)) := by
                show _ = _
                rw [← HE.out, HS, if_pos ⟨hf, by rw [cdiv, if_neg hm]; exact hle⟩, cdiv, if_neg hm]
              clear hm HS hF HST
              go_wp2
              go_ret2
              rw [HR.out]
              exact ⟨rfl, hbx⟩
            · have HN : Hid (ev true (need - (p + q) * c) (ls.drop (k + 1)) (pods + c) = ev true need0 ls 0) := by
                show _ = _
                rw [← HE.out, HS, if_neg (by rw [cdiv, if_neg hm]; omega)]
              have hfc1 : (p + q) * c < need := by
                have h1 := Int.emod_add_mul_ediv need ((p + q))
                have h2 := Int.emod_nonneg need (show (p + q) ≠ 0 by omega)
                have h3 : (p + q) * c ≤ (p + q) * (need / (p + q)) := Int.mul_le_mul_of_nonneg_left (by omega) hf0
                omega
              clear hm HS hF HST
              go_wp2
              go_roundw
              case rel => exact ⟨k + 1, pods + c, need - (p + q) * c, rfl, rfl, by go_num, by omega, by omega, by omega, by omega, (by rw [← HTL.out]; omega), trivial, HN.out, hbx⟩
              case measure => simp [intOf]; omega
        · have hz : (p + q) = 0 := by omega
          have hfc2 : (p + q) * c = 0 := by rw [hz, Int.zero_mul]
          have HN : Hid (ev true need (ls.drop (k + 1)) (pods + c) = ev true need0 ls 0) := by
            show _ = _
            rw [← HE.out, HS, if_neg (by omega), hfc2, Int.sub_zero]
          clear HS hF HST hz
          go_wp2
          go_roundw
          case rel => exact ⟨k + 1, pods + c, need, rfl, by go_num, by go_num, by omega, by omega, by omega, by omega, (by rw [← HTL.out]; omega), trivial, HN.out, hbx⟩
          case measure => simp [intOf]; omega
    · go_wp2
      go_ret2
      obtain rfl : k = ls.length := by omega
      rw [← HE.out, List.drop_of_length_le (Nat.le_refl _), ev]
      exact ⟨rfl, hb⟩
end
end Go.Proofs.Qxb6617981a
