/- Seat b6617920a: sift down; what pop leaves: plain lists. -/
import Derived.Test.Qxb6617920aHeap
import Derived.IntWalk
namespace Go.Proofs.Qxb6617920a

def fr (m : List Int) : Int := m.getD 3 0
def to' (m : List Int) : Int := m.getD 4 0
def ld (m : List Int) : Int := m.getD 12 0

/-- A heap but for the children of i. -/
def DownExc (L : List (List Int)) (i : Nat) : Prop :=
  (∀ j, 0 < j → j < L.length → (j - 1) / 2 ≠ i → le (gt L ((j - 1) / 2)) (gt L j)) ∧
  (∀ j, 0 < j → j < L.length → (j - 1) / 2 = i → 0 < i → le (gt L ((i - 1) / 2)) (gt L j))

theorem down_start (ms : List (List Int)) (x : List Int) (N : Nat) (h : Heap ms) (hl : ms.length = N + 1) : DownExc ((ms.set 0 x).take N) 0 := by
  have hg : ∀ j, 0 < j → j < N → gt ((ms.set 0 x).take N) j = gt ms j := fun j h0 hj => by
    simp [gt, List.getD_eq_getElem?_getD, hj, show 0 ≠ j by omega]
  constructor
  · intro j h0 hj hp
    simp at hj
    rw [hg j h0 (by omega), hg _ (by omega) (by omega)]
    exact h j h0 (by omega)
  · intro j h0 hj hp h
    omega

theorem down_stop {L : List (List Int)} {i : Nat} (h : DownExc L i) (h1 : 2 * i + 1 < L.length → bef (gt L (2 * i + 1)) (gt L i) = false) (h2 : 2 * i + 2 < L.length → bef (gt L (2 * i + 2)) (gt L i) = false) : Heap L := fun j h0 hj => by
  by_cases e : (j - 1) / 2 = i
  · rw [e]
    rcases (show j = 2 * i + 1 ∨ j = 2 * i + 2 by omega) with rfl | rfl
    · exact h1 hj
    · exact h2 hj
  · exact h.1 j h0 hj e

theorem down_step {L : List (List Int)} {i c : Nat} (h : DownExc L i) (hc : c < L.length) (hp : (c - 1) / 2 = i) (hic : i < c) (hb : bef (gt L c) (gt L i) = true)
    (ho : ∀ d, 0 < d → d < L.length → (d - 1) / 2 = i → le (gt L c) (gt L d)) : DownExc (swp L i c) c := by
  have gi := swp_i L i c (by omega) (by omega)
  have gc := swp_p L i c hc
  have go := swp_other L i c
  constructor
  · intro j h0 hj hne
    rw [swp_length] at hj
    by_cases e : (j - 1) / 2 = i
    · rw [e, gi]
      by_cases e2 : j = c
      · subst e2; rw [gc]; exact le_of_bef hb
      · rw [go j (by omega) e2]; exact ho j h0 hj e
    · rw [go _ e hne]
      by_cases e2 : j = i
      · subst e2
        rw [gi]
        exact h.2 c (by omega) hc hp h0
      · rw [go j e2 (by intro e3; subst e3; exact e hp)]; exact h.1 j h0 hj e
  · intro j h0 hj hq hc0
    rw [swp_length] at hj
    rw [hp, gi, go j (by omega) (by omega)]
    have := h.1 j h0 hj (by omega)
    rwa [hq] at this

/-- The child that goes up: left. -/
theorem down_left {L : List (List Int)} {i : Nat} (h : DownExc L i) (h1 : 2 * i + 1 < L.length) (hb : bef (gt L (2 * i + 1)) (gt L i) = true) (h2 : 2 * i + 2 < L.length → bef (gt L (2 * i + 2)) (gt L (2 * i + 1)) = false) : DownExc (swp L i (2 * i + 1)) (2 * i + 1) :=
  down_step h h1 (by omega) (by omega) hb (fun d h0 hd hp => by
    rcases (show d = 2 * i + 1 ∨ d = 2 * i + 2 by omega) with rfl | rfl
    · exact le_refl _
    · exact h2 hd)
/-- right, after left had gone ahead. -/
theorem down_right {L : List (List Int)} {i : Nat} (h : DownExc L i) (h2 : 2 * i + 2 < L.length) (hb1 : bef (gt L (2 * i + 1)) (gt L i) = true) (hb2 : bef (gt L (2 * i + 2)) (gt L (2 * i + 1)) = true) : DownExc (swp L i (2 * i + 2)) (2 * i + 2) := by
  have hb : bef (gt L (2 * i + 2)) (gt L i) = true := by
    rcases hh : bef (gt L (2 * i + 2)) (gt L i) with _ | _
    · have h3 : le (gt L i) (gt L (2 * i + 2)) := hh
      have h4 := le_trans h3 (le_of_bef hb2)
      rw [le, hb1] at h4; cases h4
    · rfl
  exact down_step h h2 (by omega) (by omega) hb (fun d h0 hd hp => by
    rcases (show d = 2 * i + 1 ∨ d = 2 * i + 2 by omega) with rfl | rfl
    · exact le_of_bef hb2
    · exact le_refl _)
/-- right, left not before the root. -/
theorem down_right' {L : List (List Int)} {i : Nat} (h : DownExc L i) (h2 : 2 * i + 2 < L.length) (hb1 : bef (gt L (2 * i + 1)) (gt L i) = false) (hb2 : bef (gt L (2 * i + 2)) (gt L i) = true) : DownExc (swp L i (2 * i + 2)) (2 * i + 2) :=
  down_step h h2 (by omega) (by omega) hb2 (fun d h0 hd hp => by
    rcases (show d = 2 * i + 1 ∨ d = 2 * i + 2 by omega) with rfl | rfl
    · exact le_trans (le_of_bef hb2) hb1
    · exact le_refl _)

/-- What pop begins with holds the messages but the first. -/
theorem pop_perm (ms : List (List Int)) (N : Nat) (hl : ms.length = N + 1) : ((ms.set 0 (gt ms N)).take N).Perm ms.tail := by
  match ms, hl with
  | [x], hl =>
    obtain rfl : N = 0 := by simpa using hl.symm
    simp
  | x :: y :: r, hl =>
    have hN : N = r.length + 1 := by simp at hl; omega
    subst hN
    have e : gt (x :: y :: r) (r.length + 1) = (y :: r).getLast (by simp) := by
      simp only [gt, List.getD_eq_getElem?_getD]
      rw [List.getLast_eq_getElem]
      simp
    rw [e]
    simp only [List.set_cons_zero, List.take_succ_cons, List.tail_cons]
    have e2 : (y :: r).take r.length = (y :: r).dropLast := by rw [List.dropLast_eq_take]; simp
    rw [e2]
    have := List.dropLast_concat_getLast (l := y :: r) (by simp)
    exact (List.perm_append_comm (l₁ := [(y :: r).getLast (by simp)]) (l₂ := (y :: r).dropLast)).trans (by rw [this])

/-- A number at a place goes down by x, as int64 does. -/
def subAt (zs : List Int) (i x : Int) : List Int := zs.set i.toNat (IntKind.i64.wrap (zs.getD i.toNat 0 - x))
theorem subAt_length (zs : List Int) (i x : Int) : (subAt zs i x).length = zs.length := by simp [subAt]

/-- The root of a heap is its least. -/
theorem heap_min {L : List (List Int)} (h : Heap L) : ∀ (n j : Nat), j ≤ n → j < L.length → le (gt L 0) (gt L j)
  | 0, j, hj, _ => by
    obtain rfl : j = 0 := by omega
    exact le_refl _
  | n + 1, j, hj, hl => by
    by_cases e : j = 0
    · subst e; exact le_refl _
    · exact le_trans (heap_min h n ((j - 1) / 2) (by omega) (by omega)) (h j (by omega) hl)
theorem heap_least {L : List (List Int)} (h : Heap L) {j : Nat} (hj : j < L.length) : bef (gt L j) (gt L 0) = false := heap_min h j j (Nat.le_refl _) hj

end Go.Proofs.Qxb6617920a
