/- Seat b6617981a: prefixFree, linesTotal, toPods. -/
import Derived.Test.Qxb6617981aWalkA
namespace Go.Proofs.Qxb6617981a
open Go.RowKit
set_option linter.unusedSimpArgs false
set_option linter.unusedVariables false

theorem drop_gl {ls : List (List Int)} {k : Nat} (h : k < ls.length) : ls.drop k = gl ls k :: ls.drop (k + 1) := by
  rw [List.drop_eq_getElem_cons h]
  simp [gl, List.getD_eq_getElem?_getD, h]

theorem pf_step (u : Bool) {ls : List (List Int)} {k : Nat} (h : k < ls.length) (r : Int) : pf u (ls.drop k) r = fr u (gl ls k) * min (ct (gl ls k)) r + pf u (ls.drop (k + 1)) (r - min (ct (gl ls k)) r) := by
  rw [drop_gl h]; rfl

theorem pf_acc {s p q c left t f A B : Int} (h : cap64 (s + p) = q) (hp : p = f * min c left + A) (hm : min c left = t) (hA : 0 ≤ A) (hs : 0 ≤ s) (ht : A = B) : cap64 (cap64 (s + cap64 (f * t)) + B) = q := by
  subst ht
  rw [cap64_add _ _ hA, ← h, hp, hm]
  rw [show s + cap64 (f * t) + A = cap64 (f * t) + (s + A) by omega, show s + (f * t + A) = f * t + (s + A) by omega]
  exact cap64_add _ _ (by omega)

section
attribute [local go_sem ↓] exec_ld43
set_option maxHeartbeats 800000 in
theorem prefixFree_any (a : Option Addr) (cap : Nat) (ls : List (List Int)) (hl : ∀ l ∈ ls, l.length = 5) (hg : Good ls) (r : Int) (hr0 : 0 ≤ r) (hr1 : r ≤ 9223372036854775807) (u : Bool) (w : World) (hr : RowL w a ls) (hn : ls.length ≤ 1000000) :
    Calls Try.prog 12 #[.slice a ls.length cap, .int .i64 r, .bool u] w fun e w' => e = .returned (.int .u64 (cap64 (pf u ls r))) ∧ Below w.heap.size w w' := by
  have HG : Hid (Good ls) := hg
  clear hg
  go_enter Try.func12, Try.ntmps12
  go_wp2
  go_loopw [7, 8, 9] (fun sm lf i wr => ∃ (k : Nat) (s left : Int), sm = .int .u64 s ∧ lf = .int .i64 left ∧ i = .int .i64 k ∧ k ≤ ls.length ∧ 0 ≤ s ∧ s ≤ 18446744073709551615 ∧ 0 ≤ left ∧ left ≤ 9223372036854775807 ∧ Hid (cap64 (s + pf u (ls.drop k) left) = cap64 (pf u ls r)) ∧ Below w.heap.size w wr) (fun _ _ i _ => ls.length - (intOf i).toNat)
  case atStart => exact ⟨0, 0, r, rfl, rfl, rfl, Nat.zero_le _, by omega, by omega, hr0, hr1, by show _ = _; simp, Below.refl _ _⟩
  case round =>
    obtain ⟨k, s, left, rfl, rfl, rfl, hk, hs0, hs1, hl0, hl1, HE, hb⟩ := hrel
    by_cases hlt : k < ls.length
    · have hk2 : (k : Int) < (ls.length : Int) := by omega
      by_cases hp : 0 < left
      · rcases hr with rfl | ⟨b, off, rfl, hr⟩
        · simp at hlt
        have hbl := rowsL_lt hr hl (by omega)
        have hx5 := gl_len5 hl hlt
        have hrk := rangeAt_below hb (hr k hlt) hbl
        obtain ⟨_, _, _, _, c4⟩ := lc_cells hrk hx5
        have hld := run_ld43 hrk hx5
        have hok : Ok (gl ls k) := HG.out.1 _ (gl_mem hlt)
        have hst := pf_step u hlt left
        obtain ⟨x, hx⟩ : ∃ x, x = gl ls k := ⟨_, rfl⟩
        rw [← hx] at c4 hld hok hst hx5
        have hc0 := hok.2.2.1
        have hf0 := fr_nonneg hok u
        have hf1 := fr_le hok u
        obtain ⟨c, hc⟩ : ∃ c, c = ct x := ⟨_, rfl⟩
        rw [← hc] at c4 hst hc0
        obtain ⟨f, hf⟩ : ∃ f, f = fr u x := ⟨_, rfl⟩
        rw [← hf] at hst hf0 hf1
        have HF : Hid (f = fr u x) := hf
        have HOK : Hid (Ok x) := hok
        have HST : Hid (pf u (ls.drop k) left = _) := hst
        have hpn : ∀ t, 0 ≤ t → 0 ≤ pf u (ls.drop (k + 1)) t := fun t ht => pf_nonneg u _ t (fun y hy => HG.out.1 y (List.mem_of_mem_drop hy)) ht
        have HPN : Hid (∀ t, 0 ≤ t → 0 ≤ pf u (ls.drop (k + 1)) t) := hpn
        clear hx hc hf hok hst hr hrk hpn
        by_cases hcl : left < c
        · have HML : Hid (min c left = left) := by show _ = _; omega
          have h0 : 0 ≤ f * left := Int.mul_nonneg hf0 (by omega)
          have hcm := cap64_nonneg h0
          have hcm2 := cap64_le (f * left)
          go_wp2_with (first
            | (go_at_call 21; refine (lineFree_any x hx5 u _ HOK.out).mono ?_; rw [← HF.out]; rintro e w1 ⟨rfl, hb1⟩)
            | (go_at_call 20; refine (satMul_any f left _ hf0 (by omega) (by omega) (by omega)).mono ?_; rintro e w2 ⟨rfl, rfl⟩)
            | (go_at_call 19; refine (satAdd_any s (cap64 (f * left)) _ hs0 hcm hs1 hcm2).mono ?_; rintro e w3 ⟨rfl, rfl⟩))
          go_roundw
          case rel =>
            refine ⟨k + 1, cap64 (s + cap64 (f * left)), left - left, rfl, by go_num, by go_num, by omega, cap64_nonneg (by omega), cap64_le _, by omega, by omega, ?_, hb.trans (hb1.mono hb.size)⟩
            exact pf_acc HE.out HST.out HML.out (HPN.out _ (by omega)) hs0 (by rw [HML.out])
          case measure => simp [intOf]; omega
        · have HML : Hid (min c left = c) := by show _ = _; omega
          have h0 : 0 ≤ f * c := Int.mul_nonneg hf0 (by omega)
          have hcm := cap64_nonneg h0
          have hcm2 := cap64_le (f * c)
          go_wp2_with (first
            | (go_at_call 21; refine (lineFree_any x hx5 u _ HOK.out).mono ?_; rw [← HF.out]; rintro e w1 ⟨rfl, hb1⟩)
            | (go_at_call 20; refine (satMul_any f c _ hf0 (by omega) (by omega) (by omega)).mono ?_; rintro e w2 ⟨rfl, rfl⟩)
            | (go_at_call 19; refine (satAdd_any s (cap64 (f * c)) _ hs0 hcm hs1 hcm2).mono ?_; rintro e w3 ⟨rfl, rfl⟩))
          go_roundw
          case rel =>
            refine ⟨k + 1, cap64 (s + cap64 (f * c)), left - c, rfl, by go_num, by go_num, by omega, cap64_nonneg (by omega), cap64_le _, by omega, by omega, ?_, hb.trans (hb1.mono hb.size)⟩
            exact pf_acc HE.out HST.out HML.out (HPN.out _ (by omega)) hs0 (by rw [HML.out])
          case measure => simp [intOf]; omega
      · go_wp2
        go_ret
        refine ⟨?_, hb⟩
        obtain rfl : left = 0 := by omega
        have := HE.out
        rw [pf_zero u _ (fun y hy => HG.out.1 y (List.mem_of_mem_drop hy)), Int.add_zero, cap64_id hs1] at this
        rw [← this]; rfl
    · go_wp2
      go_ret
      refine ⟨?_, hb⟩
      have := HE.out
      rw [List.drop_of_length_le (by omega), pf, Int.add_zero, cap64_id hs1] at this
      rw [← this]; rfl
end

theorem lc_one {l : List Int} (hl : l.length = 5) : (lc l)[1]? = some (.int .i64 (us l)) := by
  obtain ⟨a0, a1, a2, a3, a4, rfl⟩ := list5 l hl; rfl
theorem lc_two {l : List Int} (hl : l.length = 5) : (lc l)[2]? = some (.int .i64 (un l)) := by
  obtain ⟨a0, a1, a2, a3, a4, rfl⟩ := list5 l hl; rfl
theorem lc_four {l : List Int} (hl : l.length = 5) : (lc l)[4]? = some (.int .i64 (ct l)) := by
  obtain ⟨a0, a1, a2, a3, a4, rfl⟩ := list5 l hl; rfl

/-- A line's numbers are int64's. -/
def Rg (l : List Int) : Prop := us l ≤ 9223372036854775807 ∧ un l ≤ 9223372036854775807 ∧ ct l ≤ 9223372036854775807

/-- What linesTotal returns. -/
def LtPost (ls : List (List Int)) (e : Ending) : Prop := ∃ (t : Int) (b : Bool), e = .returned (.tuple #[.int .i64 t, .bool b]) ∧ (b = true → t = tot ls ∧ Good ls)

theorem tot_take {ls : List (List Int)} {k : Nat} (h : k < ls.length) : tot (ls.take (k + 1)) = tot (ls.take k) + ct (gl ls k) := by
  rw [List.take_succ_eq_append_getElem h]
  have e : gl ls k = ls[k] := by simp [gl, List.getD_eq_getElem?_getD, h]
  rw [e]
  generalize ls.take k = A
  induction A with
  | nil => simp [tot]
  | cons a A ih => simp only [List.cons_append, tot, ih]; omega

section
attribute [local go_sem ↓] exec_ld43 exec_st43
set_option maxHeartbeats 1600000 in
theorem linesTotal_any (a : Option Addr) (cap : Nat) (ls : List (List Int)) (hl : ∀ l ∈ ls, l.length = 5) (hrg : ∀ l ∈ ls, Rg l) (w : World) (hr : RowL w a ls) (hn : ls.length ≤ 1000000) :
    Calls Try.prog 8 #[.slice a ls.length cap] w fun e w' => LtPost ls e ∧ Below w.heap.size w w' := by
  go_enter Try.func8, Try.ntmps8
  go_wp2
  go_loopw [4, 5] (fun t i wr => ∃ (k : Nat) (s : Int), t = .int .i64 s ∧ i = .int .i64 k ∧ k ≤ ls.length ∧ 0 ≤ s ∧ s ≤ 9223372036854775807 ∧ Hid (s = tot (ls.take k) ∧ ∀ i, i < k → Ok (gl ls i)) ∧ Below w.heap.size w wr) (fun _ i _ => ls.length - (intOf i).toNat)
  case atStart => exact ⟨0, 0, rfl, rfl, Nat.zero_le _, by omega, by omega, ⟨rfl, fun i hi => by omega⟩, Below.refl _ _⟩
  case round =>
    obtain ⟨k, s, rfl, rfl, hk, hs0, hs1, HE, hb⟩ := hrel
    by_cases hlt : k < ls.length
    · have hk2 : (k : Int) < (ls.length : Int) := by omega
      rcases hr with rfl | ⟨b, off, rfl, hr⟩
      · simp at hlt
      have hx5 := gl_len5 hl hlt
      have hrk := rangeAt_below hb (hr k hlt) (rowsL_lt hr hl (by omega))
      have hld := run_ld43 hrk hx5
      obtain ⟨x, hx⟩ : ∃ x, x = gl ls k := ⟨_, rfl⟩
      rw [← hx] at hld hx5
      have HX : Hid (x = gl ls k) := hx
      have hst := fun old ho => run_st43_new (w := wr) (old := old) (l := x) ho hx5
      have m1 : (lc x)[1]? = some (.int .i64 (us x)) := lc_one hx5
      have m2 : (lc x)[2]? = some (.int .i64 (un x)) := lc_two hx5
      have m4 : (lc x)[4]? = some (.int .i64 (ct x)) := lc_four hx5
      have HOKI : Hid (0 ≤ us x → 0 ≤ un x → 0 ≤ ct x → us x + un x ≤ 9223372036854775807 → Ok x) := fun h1 h2 h3 h4 => ⟨h1, h2, h3, h4⟩
      obtain ⟨u1, u2, u3⟩ : Rg x := by rw [hx]; exact hrg _ (gl_mem hlt)
      obtain ⟨p, hp⟩ : ∃ p, p = us x := ⟨_, rfl⟩
      obtain ⟨q, hq⟩ : ∃ q, q = un x := ⟨_, rfl⟩
      obtain ⟨c, hc⟩ : ∃ c, c = ct x := ⟨_, rfl⟩
      rw [← hp, ← hq, ← hc] at HOKI
      rw [← hp] at m1 u1
      rw [← hq] at m2 u2
      rw [← hc] at m4 u3
      have HC : Hid (c = ct x) := hc
      clear hx hrk hr hp hq hc
      have hbx := hb.alloc hb.size (.cells (lc x).toArray 43)
      by_cases k1 : p < 0
      · go_wp2
        go_ret2
        exact ⟨⟨0, false, rfl, fun h => by cases h⟩, hbx⟩
      · by_cases k2 : q < 0
        · go_wp2
          go_ret2
          exact ⟨⟨0, false, rfl, fun h => by cases h⟩, hbx⟩
        · by_cases k3 : c < 0
          · go_wp2
            go_ret2
            exact ⟨⟨0, false, rfl, fun h => by cases h⟩, hbx⟩
          · by_cases k4 : 9223372036854775807 - q < p
            · go_wp2
              go_ret2
              exact ⟨⟨0, false, rfl, fun h => by cases h⟩, hbx⟩
            · by_cases k5 : 9223372036854775807 - c < s
              · go_wp2
                go_ret2
                exact ⟨⟨0, false, rfl, fun h => by cases h⟩, hbx⟩
              · go_wp2
                go_roundw
                case rel =>
                  refine ⟨k + 1, s + c, rfl, by go_num, by omega, by omega, by omega, ?_, hbx⟩
                  obtain ⟨h1, h2⟩ := HE.out
                  refine ⟨by rw [tot_take hlt, ← HX.out, ← HC.out, h1], fun i hi => ?_⟩
                  by_cases e : i = k
                  · subst e; rw [← HX.out]; exact HOKI.out (by omega) (by omega) (by omega) (by omega)
                  · exact h2 i (by omega)
                case measure => simp [intOf]; omega
    · go_wp2
      go_ret2
      obtain rfl : k = ls.length := by omega
      refine ⟨⟨s, true, rfl, fun _ => ?_⟩, hb⟩
      obtain ⟨h1, h2⟩ := HE.out
      rw [List.take_of_length_le (Nat.le_refl _)] at h1
      refine ⟨h1, fun l hl => ?_, by omega⟩
      obtain ⟨i, hi, rfl⟩ := List.mem_iff_getElem.1 hl
      have := h2 i hi
      simpa [gl, List.getD_eq_getElem?_getD, hi] using this
end
end Go.Proofs.Qxb6617981a
