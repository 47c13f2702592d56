/- Seat b6617981a: the plain laws on the least count. -/
import Derived.Test.Qxb6617981aPlain
namespace Go.Proofs.Qxb6617981a
set_option linter.unusedVariables false

/-- u frees no less than v. -/
def UG (u v : Bool) : Prop := v = true → u = true
theorem fr_ug {u v : Bool} (h : UG u v) {l : List Int} (hl : Ok l) : fr v l ≤ fr u l := by
  obtain ⟨h1, h2, h3, h4⟩ := hl
  rcases u with _ | _ <;> rcases v with _ | _ <;> simp [fr, UG] at * <;> omega
theorem pf_ug {u v : Bool} (h : UG u v) : ∀ (ls : List (List Int)) (r : Int), (∀ l ∈ ls, Ok l) → 0 ≤ r → pf v ls r ≤ pf u ls r
  | [], _, _, _ => Int.le_refl _
  | l :: ls, r, hk, hr => by
    have hl := hk l List.mem_cons_self
    have h1 : 0 ≤ min (ct l) r := by have := hl.2.2.1; omega
    have h2 := pf_ug h ls (r - min (ct l) r) (fun x hx => hk x (List.mem_cons_of_mem _ hx)) (by omega)
    have h3 := Int.mul_le_mul_of_nonneg_right (fr_ug h hl) h1
    simp only [pf]; omega

/-- The least count, of one need. -/
structure Least (u : Bool) (need : Int) (ls : List (List Int)) (p : Int) (s : Bool) : Prop where
  short : s = true → p = tot ls ∧ pf u ls (tot ls) < need
  full : s = false → 1 ≤ p ∧ p ≤ tot ls ∧ need ≤ pf u ls p ∧ pf u ls (p - 1) < need

theorem ev_least (u : Bool) (need : Int) (ls : List (List Int)) (h : ∀ l ∈ ls, Ok l) (hn : 0 < need) : Least u need ls (ev u need ls 0).1 (ev u need ls 0).2 := by
  obtain ⟨h1, h2⟩ := ev_spec u ls need 0 h hn
  refine ⟨fun k => ?_, fun k => ?_⟩
  · have := h1 k; simpa using this
  · have := h2 k; simpa using this

theorem least_cmp {u v : Bool} {n m : Int} {ls : List (List Int)} {p q : Int} {s t : Bool} (h : ∀ l ∈ ls, Ok l) (ug : UG u v) (hnm : n ≤ m) (a : Least u n ls p s) (b : Least v m ls q t) : p ≤ q ∧ (s = true → t = true) := by
  have ht := tot_nonneg ls h
  rcases s with _ | _
  · obtain ⟨a1, a2, a3, a4⟩ := a.full rfl
    refine ⟨?_, fun k => by simp at k⟩
    rcases t with _ | _
    · obtain ⟨b1, b2, b3, b4⟩ := b.full rfl
      have h1 := pf_ug ug ls q h (by omega)
      rcases Int.lt_or_le q p with k | k
      · have := pf_mono u ls q (p - 1) h (by omega) (by omega)
        omega
      · exact k
    · obtain ⟨b1, b2⟩ := b.short rfl
      omega
  · obtain ⟨a1, a2⟩ := a.short rfl
    rcases t with _ | _
    · obtain ⟨b1, b2, b3, b4⟩ := b.full rfl
      have h1 := pf_ug ug ls q h (by omega)
      have h2 := pf_mono u ls q (tot ls) h (by omega) b2
      omega
    · obtain ⟨b1, b2⟩ := b.short rfl
      exact ⟨by omega, fun _ => rfl⟩

theorem least_unique {u : Bool} {n : Int} {ls : List (List Int)} {p q : Int} {s t : Bool} (h : ∀ l ∈ ls, Ok l) (a : Least u n ls p s) (b : Least u n ls q t) : p = q ∧ s = t := by
  obtain ⟨h1, h2⟩ := least_cmp h (fun k => k) (Int.le_refl n) a b
  obtain ⟨h3, h4⟩ := least_cmp h (fun k => k) (Int.le_refl n) b a
  refine ⟨by omega, ?_⟩
  rcases s with _ | _ <;> rcases t with _ | _ <;> simp_all

/-- Parted at a cut. -/
theorem tot_append : ∀ (a b : List (List Int)), tot (a ++ b) = tot a + tot b
  | [], b => by simp [tot]
  | l :: a, b => by simp only [List.cons_append, tot, tot_append a b]; omega
theorem pf_all (u : Bool) : ∀ (ls : List (List Int)) (r : Int), (∀ l ∈ ls, Ok l) → tot ls ≤ r → pf u ls r = pf u ls (tot ls)
  | [], _, _, _ => rfl
  | l :: ls, r, h, hr => by
    have hl := h l List.mem_cons_self
    have hs : ∀ x ∈ ls, Ok x := fun x hx => h x (List.mem_cons_of_mem _ hx)
    have h3 := hl.2.2.1
    have ht := tot_nonneg ls hs
    simp only [tot] at hr
    simp only [pf, tot]
    rw [show min (ct l) r = ct l by omega, show min (ct l) (ct l + tot ls) = ct l by omega, show ct l + tot ls - ct l = tot ls by omega, pf_all u ls (r - ct l) hs (by omega)]
theorem pf_append_lo (u : Bool) : ∀ (a b : List (List Int)) (r : Int), (∀ l ∈ a, Ok l) → (∀ l ∈ b, Ok l) → 0 ≤ r → r ≤ tot a → pf u (a ++ b) r = pf u a r
  | [], b, r, ha, hb, h0, hr => by
    simp only [tot] at hr
    rw [show r = 0 by omega, List.nil_append, pf_zero u b hb]; rfl
  | l :: a, b, r, ha, hb, h0, hr => by
    have hl := ha l List.mem_cons_self
    have hs : ∀ x ∈ a, Ok x := fun x hx => ha x (List.mem_cons_of_mem _ hx)
    have ht := tot_nonneg a hs
    simp only [tot] at hr
    simp only [List.cons_append, pf]
    rw [pf_append_lo u a b (r - min (ct l) r) hs hb (by omega) (by omega)]
theorem pf_append_hi (u : Bool) : ∀ (a b : List (List Int)) (r : Int), (∀ l ∈ a, Ok l) → (∀ l ∈ b, Ok l) → 0 ≤ r → pf u (a ++ b) (tot a + r) = pf u a (tot a) + pf u b r
  | [], b, r, ha, hb, h0 => by simp [tot, pf]
  | l :: a, b, r, ha, hb, h0 => by
    have hl := ha l List.mem_cons_self
    have hs : ∀ x ∈ a, Ok x := fun x hx => ha x (List.mem_cons_of_mem _ hx)
    have ht := tot_nonneg a hs
    have h3 := hl.2.2.1
    simp only [List.cons_append, pf, tot]
    rw [show min (ct l) (ct l + tot a + r) = ct l by omega, show min (ct l) (ct l + tot a) = ct l by omega, show ct l + tot a + r - ct l = tot a + r by omega, show ct l + tot a - ct l = tot a by omega, pf_append_hi u a b r hs hb h0]
    omega

theorem cut_head {u : Bool} {n : Int} {a b : List (List Int)} {p q : Int} {s : Bool} (ha : ∀ l ∈ a, Ok l) (hb : ∀ l ∈ b, Ok l) (x : Least u n (a ++ b) p s) (y : Least u n a q false) : p = q ∧ s = false := by
  have hab : ∀ l ∈ a ++ b, Ok l := fun l hl => (List.mem_append.1 hl).elim (ha l) (hb l)
  have tb := tot_nonneg b hb
  refine least_unique hab x ⟨fun k => by simp at k, fun _ => ?_⟩
  obtain ⟨y1, y2, y3, y4⟩ := y.full rfl
  rw [pf_append_lo u a b q ha hb (by omega) y2, pf_append_lo u a b (q - 1) ha hb (by omega) (by omega), tot_append]
  exact ⟨y1, by omega, y3, y4⟩
theorem cut_tail {u : Bool} {n : Int} {a b : List (List Int)} {p q : Int} {s t : Bool} (ha : ∀ l ∈ a, Ok l) (hb : ∀ l ∈ b, Ok l) (x : Least u n (a ++ b) p s) (y : pf u a (tot a) < n) (z : Least u (n - pf u a (tot a)) b q t) : p = tot a + q ∧ s = t := by
  have hab : ∀ l ∈ a ++ b, Ok l := fun l hl => (List.mem_append.1 hl).elim (ha l) (hb l)
  have ta := tot_nonneg a ha
  have tb := tot_nonneg b hb
  refine least_unique hab x ⟨fun k => ?_, fun k => ?_⟩
  · obtain ⟨z1, z2⟩ := z.short k
    rw [tot_append, pf_append_hi u a b _ ha hb tb]
    omega
  · obtain ⟨z1, z2, z3, z4⟩ := z.full k
    rw [tot_append, pf_append_hi u a b _ ha hb (by omega), show tot a + q - 1 = tot a + (q - 1) by omega, pf_append_hi u a b _ ha hb (by omega)]
    omega

/-- What evictions gives, pressed or not. -/
def evp (pressed u : Bool) (need : Int) (ls : List (List Int)) : Int × Bool := if pressed then ev u need ls 0 else (0, false)
theorem evp_off (u : Bool) (need : Int) (ls : List (List Int)) : evp false u need ls = (0, false) := rfl
theorem evp_on (u : Bool) (need : Int) (ls : List (List Int)) : evp true u need ls = ev u need ls 0 := rfl
theorem least_nonneg {u : Bool} {n : Int} {ls : List (List Int)} {p : Int} {s : Bool} (h : ∀ l ∈ ls, Ok l) (a : Least u n ls p s) : 0 ≤ p := by
  have ht := tot_nonneg ls h
  rcases s with _ | _
  · have := (a.full rfl).1; omega
  · have := (a.short rfl).1; omega

/-- The law on two nodes. -/
theorem two_nodes {c i v1 v2 th tg : Int} {ls : List (List Int)} (h : ∀ l ∈ ls, Ok l) (h1 : 0 ≤ i) (h2 : i ≤ c) (h3 : 0 ≤ v1) (h4 : v1 ≤ v2) (h5 : th ≤ tg) {F A B : Int} {s p q : Bool}
    (hF : F = (evp (decide (c - i < th)) true (tg - (c - i)) ls).1) (hs : s = (evp (decide (c - i < th)) true (tg - (c - i)) ls).2)
    (hA : A = (evp (decide (max (c - i - v1) 0 < th)) false (tg - (c - i - v1)) ls).1) (hp : p = (evp (decide (max (c - i - v1) 0 < th)) false (tg - (c - i - v1)) ls).2)
    (hB : B = (evp (decide (max (c - i - v2) 0 < th)) false (tg - (c - i - v2)) ls).1) (hq : q = (evp (decide (max (c - i - v2) 0 < th)) false (tg - (c - i - v2)) ls).2) :
    F ≤ A ∧ A ≤ B ∧ (s = true → p = true) ∧ (p = true → q = true) ∧ (s = true → F = tot ls ∧ A = tot ls ∧ B = tot ls) ∧ (c - i < th → 1 ≤ F ∨ s = true) ∧ (th ≤ c - i → F = 0 ∧ s = false) := by
  have ht := tot_nonneg ls h
  by_cases k1 : c - i < th
  · have k2 : max (c - i - v1) 0 < th := by omega
    have k3 : max (c - i - v2) 0 < th := by omega
    rw [decide_eq_true k1, evp_on] at hF hs
    rw [decide_eq_true k2, evp_on] at hA hp
    rw [decide_eq_true k3, evp_on] at hB hq
    have LF := ev_least true (tg - (c - i)) ls h (by omega)
    have LA := ev_least false (tg - (c - i - v1)) ls h (by omega)
    have LB := ev_least false (tg - (c - i - v2)) ls h (by omega)
    rw [← hF, ← hs] at LF
    rw [← hA, ← hp] at LA
    rw [← hB, ← hq] at LB
    obtain ⟨x1, x2⟩ := least_cmp h (by intro k; rfl) (by omega) LF LA
    obtain ⟨y1, y2⟩ := least_cmp h (by intro k; exact k) (by omega) LA LB
    refine ⟨x1, y1, x2, y2, fun k => ⟨(LF.short k).1, (LA.short (x2 k)).1, (LB.short (y2 (x2 k))).1⟩, fun _ => ?_, fun k => by omega⟩
    rcases s with _ | _
    · left; exact (LF.full rfl).1
    · right; rfl
  · rw [decide_eq_false k1, evp_off] at hF hs
    simp only at hF hs
    subst hF hs
    by_cases k2 : max (c - i - v1) 0 < th
    · have k3 : max (c - i - v2) 0 < th := by omega
      rw [decide_eq_true k2, evp_on] at hA hp
      rw [decide_eq_true k3, evp_on] at hB hq
      have LA := ev_least false (tg - (c - i - v1)) ls h (by omega)
      have LB := ev_least false (tg - (c - i - v2)) ls h (by omega)
      rw [← hA, ← hp] at LA
      rw [← hB, ← hq] at LB
      obtain ⟨y1, y2⟩ := least_cmp h (by intro k; exact k) (by omega) LA LB
      exact ⟨least_nonneg h LA, y1, fun k => by simp at k, y2, fun k => by simp at k, fun k => by omega, fun _ => ⟨rfl, rfl⟩⟩
    · rw [decide_eq_false k2, evp_off] at hA hp
      simp only at hA hp
      subst hA hp
      refine ⟨Int.le_refl _, ?_, fun k => by simp at k, fun k => by simp at k, fun k => by simp at k, fun k => by omega, fun _ => ⟨rfl, rfl⟩⟩
      by_cases k3 : max (c - i - v2) 0 < th
      · rw [decide_eq_true k3, evp_on] at hB hq
        have LB := ev_least false (tg - (c - i - v2)) ls h (by omega)
        rw [← hB, ← hq] at LB
        exact least_nonneg h LB
      · rw [decide_eq_false k3, evp_off] at hB
        simp only at hB
        omega
end Go.Proofs.Qxb6617981a
