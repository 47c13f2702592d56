/- Seat b6617981a: the plain side: lines of an eviction order as lists of five integers. -/
import GoSem.Core.World
namespace Go.Proofs.Qxb6617981a

def KL : List IntKind := [.i32, .i64, .i64, .i64, .i64]
/-- A line's cells. -/
def lc (l : List Int) : List Value := List.zipWith Value.int KL l
def us (l : List Int) : Int := l.getD 1 0
def un (l : List Int) : Int := l.getD 2 0
def ct (l : List Int) : Int := l.getD 4 0
def gl (ls : List (List Int)) (i : Nat) : List Int := ls.getD i []

theorem lc_length (l : List Int) (h : l.length = 5) : (lc l).length = 5 := by simp [lc, KL, h]
theorem list5 (m : List Int) (h : m.length = 5) : ∃ a0 a1 a2 a3 a4, m = [a0, a1, a2, a3, a4] := by
  match m, h with
  | [a0, a1, a2, a3, a4], _ => exact ⟨a0, a1, a2, a3, a4, rfl⟩

/-- What one pod of a line frees. -/
def fr (u : Bool) (l : List Int) : Int := if u then us l + un l else us l
/-- The pods of an order. -/
def tot : List (List Int) → Int
  | [] => 0
  | l :: ls => ct l + tot ls
/-- One line is in the domain. -/
def Ok (l : List Int) : Prop := 0 ≤ us l ∧ 0 ≤ un l ∧ 0 ≤ ct l ∧ us l + un l ≤ 9223372036854775807
/-- The documented domain of an order. -/
def Good (ls : List (List Int)) : Prop := (∀ l ∈ ls, Ok l) ∧ tot ls ≤ 9223372036854775807

def cap64 (x : Int) : Int := if x ≤ 18446744073709551615 then x else 18446744073709551615
theorem cap64_le (x : Int) : cap64 x ≤ 18446744073709551615 := by unfold cap64; split <;> omega
theorem cap64_nonneg {x : Int} (h : 0 ≤ x) : 0 ≤ cap64 x := by unfold cap64; split <;> omega
theorem cap64_add (a x : Int) (hx : 0 ≤ x) : cap64 (cap64 a + x) = cap64 (a + x) := by unfold cap64; (repeat' split) <;> omega
theorem cap64_id {x : Int} (h : x ≤ 18446744073709551615) : cap64 x = x := by unfold cap64; rw [if_pos h]
theorem cap64_ge {x n : Int} (hn : n ≤ 18446744073709551615) : n ≤ cap64 x ↔ n ≤ x := by unfold cap64; split <;> omega
theorem cap64_lt {x n : Int} (hn : n ≤ 18446744073709551615) : cap64 x < n ↔ x < n := by unfold cap64; split <;> omega

theorem fr_nonneg {l : List Int} (h : Ok l) (u : Bool) : 0 ≤ fr u l := by obtain ⟨h1, h2, h3, h4⟩ := h; unfold fr; split <;> omega
theorem fr_le {l : List Int} (h : Ok l) (u : Bool) : fr u l ≤ 9223372036854775807 := by obtain ⟨h1, h2, h3, h4⟩ := h; unfold fr; split <;> omega

/-- What the first r pods of an order free. -/
def pf (u : Bool) : List (List Int) → Int → Int
  | [], _ => 0
  | l :: ls, r => fr u l * min (ct l) r + pf u ls (r - min (ct l) r)

theorem pf_nonneg (u : Bool) : ∀ (ls : List (List Int)) (r : Int), (∀ l ∈ ls, Ok l) → 0 ≤ r → 0 ≤ pf u ls r
  | [], _, _, _ => Int.le_refl _
  | l :: ls, r, h, hr => by
    have hl := h l List.mem_cons_self
    have h1 : 0 ≤ min (ct l) r := by have := hl.2.2.1; omega
    have h2 := pf_nonneg u ls (r - min (ct l) r) (fun x hx => h x (List.mem_cons_of_mem _ hx)) (by omega)
    have h3 := Int.mul_nonneg (fr_nonneg hl u) h1
    simp only [pf]; omega
theorem pf_zero (u : Bool) : ∀ (ls : List (List Int)), (∀ l ∈ ls, Ok l) → pf u ls 0 = 0
  | [], _ => rfl
  | l :: ls, h => by
    have hl := h l List.mem_cons_self
    have h1 : min (ct l) 0 = 0 := by have := hl.2.2.1; omega
    simp only [pf, h1, Int.mul_zero, Int.sub_zero, Int.zero_add]
    exact pf_zero u ls (fun x hx => h x (List.mem_cons_of_mem _ hx))
theorem tot_nonneg : ∀ (ls : List (List Int)), (∀ l ∈ ls, Ok l) → 0 ≤ tot ls
  | [], _ => Int.le_refl _
  | l :: ls, h => by
    have h1 := (h l List.mem_cons_self).2.2.1
    have h2 := tot_nonneg ls (fun x hx => h x (List.mem_cons_of_mem _ hx))
    simp only [tot]; omega

/-- The first r + s pods, parted. -/
theorem pf_mono (u : Bool) : ∀ (ls : List (List Int)) (r r' : Int), (∀ l ∈ ls, Ok l) → 0 ≤ r → r ≤ r' → pf u ls r ≤ pf u ls r'
  | [], _, _, _, _, _ => Int.le_refl _
  | l :: ls, r, r', h, h0, hr => by
    have hl := h l List.mem_cons_self
    have hs : ∀ x ∈ ls, Ok x := fun x hx => h x (List.mem_cons_of_mem _ hx)
    have h3 := hl.2.2.1
    have h1 : fr u l * min (ct l) r ≤ fr u l * min (ct l) r' := Int.mul_le_mul_of_nonneg_left (by omega) (fr_nonneg hl u)
    have h2 := pf_mono u ls (r - min (ct l) r) (r' - min (ct l) r') hs (by omega) (by omega)
    simp only [pf]; omega

/-- How many pods of freed f make up need: rounded up. -/
def cdiv (n f : Int) : Int := if n % f = 0 then n / f else n / f + 1
theorem cdiv_spec {n f : Int} (hf : 0 < f) (hn : 0 < n) : 1 ≤ cdiv n f ∧ n ≤ f * cdiv n f ∧ f * (cdiv n f - 1) < n := by
  have h1 := Int.emod_add_mul_ediv n f
  have h2 := Int.emod_nonneg n (show f ≠ 0 by omega)
  have h3 := Int.emod_lt_of_pos n hf
  have h4 : 0 ≤ n / f := Int.ediv_nonneg (by omega) (by omega)
  unfold cdiv
  split
  · rename_i h
    have h5 : 1 ≤ n / f := by
      rcases Int.lt_or_le 0 (n / f) with h6 | h6
      · omega
      · have : n / f = 0 := by omega
        rw [this] at h1; simp at h1; omega
    have h6 : f * (n / f - 1) = f * (n / f) - f := by rw [Int.mul_sub]; simp
    omega
  · have h5 : f * (n / f + 1) = f * (n / f) + f := by rw [Int.mul_add]; simp
    have h6 : f * (n / f + 1 - 1) = f * (n / f) := by rw [show n / f + 1 - 1 = n / f by omega]
    omega
theorem cdiv_le {n f : Int} (hf : 0 < f) (hn : 0 < n) : cdiv n f ≤ n := by
  obtain ⟨h1, h2, h3⟩ := cdiv_spec hf hn
  have : 1 * (cdiv n f - 1) ≤ f * (cdiv n f - 1) := Int.mul_le_mul_of_nonneg_right (by omega) (by omega)
  omega

/-- What evictions computes. -/
def ev (u : Bool) : Int → List (List Int) → Int → Int × Bool
  | _, [], pods => (pods, true)
  | need, l :: ls, pods => if 0 < fr u l ∧ cdiv need (fr u l) ≤ ct l then (pods + cdiv need (fr u l), false) else ev u (need - fr u l * ct l) ls (pods + ct l)

/-- Where a line does not suffice it frees less than is needed. -/
theorem left_pos {u : Bool} {l : List Int} {need : Int} (hl : Ok l) (hn : 0 < need) (h : ¬ (0 < fr u l ∧ cdiv need (fr u l) ≤ ct l)) : 0 ≤ fr u l * ct l ∧ fr u l * ct l < need := by
  have h0 := fr_nonneg hl u
  have h3 := hl.2.2.1
  refine ⟨Int.mul_nonneg h0 h3, ?_⟩
  by_cases hf : 0 < fr u l
  · obtain ⟨c1, c2, c3⟩ := cdiv_spec hf hn
    have h4 : ct l ≤ cdiv need (fr u l) - 1 := by
      rcases Int.lt_or_le (ct l) (cdiv need (fr u l)) with h5 | h5
      · omega
      · exact absurd ⟨hf, h5⟩ h
    have := Int.mul_le_mul_of_nonneg_left h4 h0
    omega
  · have : fr u l = 0 := by omega
    rw [this]; simp; exact hn

/-- What the count is. -/
theorem ev_spec (u : Bool) : ∀ (ls : List (List Int)) (need pods : Int), (∀ l ∈ ls, Ok l) → 0 < need →
    ((ev u need ls pods).2 = true → (ev u need ls pods).1 = pods + tot ls ∧ pf u ls (tot ls) < need) ∧
    ((ev u need ls pods).2 = false → 1 ≤ (ev u need ls pods).1 - pods ∧ (ev u need ls pods).1 - pods ≤ tot ls ∧ need ≤ pf u ls ((ev u need ls pods).1 - pods) ∧ pf u ls ((ev u need ls pods).1 - pods - 1) < need)
  | [], need, pods, _, hn => by simp [ev, tot, pf, hn]
  | l :: ls, need, pods, h, hn => by
    have hl := h l List.mem_cons_self
    have hs : ∀ x ∈ ls, Ok x := fun x hx => h x (List.mem_cons_of_mem _ hx)
    have h0 := fr_nonneg hl u
    have h3 := hl.2.2.1
    have ht := tot_nonneg ls hs
    by_cases hc : 0 < fr u l ∧ cdiv need (fr u l) ≤ ct l
    · obtain ⟨c1, c2, c3⟩ := cdiv_spec hc.1 hn
      have e : ev u need (l :: ls) pods = (pods + cdiv need (fr u l), false) := by simp only [ev, if_pos hc]
      rw [e]
      refine ⟨fun h => by simp at h, fun _ => ?_⟩
      simp only [pf, tot]
      rw [show pods + cdiv need (fr u l) - pods = cdiv need (fr u l) by omega]
      rw [show min (ct l) (cdiv need (fr u l)) = cdiv need (fr u l) by omega, show min (ct l) (cdiv need (fr u l) - 1) = cdiv need (fr u l) - 1 by omega]
      rw [show cdiv need (fr u l) - cdiv need (fr u l) = 0 by omega, show cdiv need (fr u l) - 1 - (cdiv need (fr u l) - 1) = 0 by omega, pf_zero u ls hs]
      omega
    · have e : ev u need (l :: ls) pods = ev u (need - fr u l * ct l) ls (pods + ct l) := by simp only [ev, if_neg hc]
      obtain ⟨p1, p2⟩ := left_pos hl hn hc
      obtain ⟨i1, i2⟩ := ev_spec u ls (need - fr u l * ct l) (pods + ct l) hs (by omega)
      rw [e]
      refine ⟨fun hh => ?_, fun hh => ?_⟩
      · obtain ⟨j1, j2⟩ := i1 hh
        refine ⟨by rw [j1]; simp only [tot]; omega, ?_⟩
        simp only [pf, tot]
        rw [show min (ct l) (ct l + tot ls) = ct l by omega, show ct l + tot ls - ct l = tot ls by omega]
        omega
      · obtain ⟨j1, j2, j3, j4⟩ := i2 hh
        generalize (ev u (need - fr u l * ct l) ls (pods + ct l)).1 = q at *
        simp only [pf, tot]
        refine ⟨by omega, by omega, ?_, ?_⟩
        · rw [show min (ct l) (q - pods) = ct l by omega, show q - pods - ct l = q - (pods + ct l) by omega]; omega
        · rw [show min (ct l) (q - pods - 1) = ct l by omega, show q - pods - 1 - ct l = q - (pods + ct l) - 1 by omega]; omega

end Go.Proofs.Qxb6617981a
