/- Seat b6617920a: array heaps: sift up, sift down: plain lists. -/
import Derived.Test.Qxb6617920aPlain
namespace Go.Proofs.Qxb6617920a

/-- a comes no later than b. -/
def le (a b : List Int) : Prop := bef b a = false
theorem le_iff (a b : List Int) : le a b ↔ at' a < at' b ∨ at' a = at' b ∧ sq a ≤ sq b := by
  simp only [le, bef, Bool.or_eq_false_iff, Bool.and_eq_false_iff, decide_eq_false_iff_not]
  omega
theorem le_trans {a b c : List Int} (h : le a b) (k : le b c) : le a c := by
  rw [le_iff] at *; omega
theorem le_refl (a : List Int) : le a a := by rw [le_iff]; omega
theorem le_of_bef {a b : List Int} (h : bef a b = true) : le a b := by
  rw [le_iff]
  simp only [bef, Bool.or_eq_true, Bool.and_eq_true, decide_eq_true_eq] at h
  omega

def gt (L : List (List Int)) (i : Nat) : List Int := L.getD i []

/-- A heap. -/
def Heap (L : List (List Int)) : Prop := ∀ j, 0 < j → j < L.length → le (gt L ((j - 1) / 2)) (gt L j)
theorem heap_iff (L : List (List Int)) : heapB L = true ↔ Heap L := by
  simp only [heapB, heapUpto, Heap, List.all_eq_true, List.mem_range, gt, le]
  constructor
  · intro h j h0 hj
    have := h j hj
    simp only [Bool.or_eq_true, beq_iff_eq, Bool.not_eq_true'] at this
    rcases this with h1 | h1
    · omega
    · exact h1
  · intro h j hj
    by_cases h0 : j = 0
    · simp [h0]
    · rw [h j (by omega) hj]; simp

def swp (L : List (List Int)) (i p : Nat) : List (List Int) := (L.set i (gt L p)).set p (gt L i)
theorem swp_length (L : List (List Int)) (i p : Nat) : (swp L i p).length = L.length := by simp [swp]
theorem swp_i (L : List (List Int)) (i p : Nat) (hi : i < L.length) (h : i ≠ p) : gt (swp L i p) i = gt L p := by
  simp [swp, gt, List.getD_eq_getElem?_getD, h.symm, hi]
theorem swp_p (L : List (List Int)) (i p : Nat) (hp : p < L.length) : gt (swp L i p) p = gt L i := by
  simp [swp, gt, List.getD_eq_getElem?_getD, hp]
theorem swp_other (L : List (List Int)) (i p j : Nat) (h1 : j ≠ i) (h2 : j ≠ p) : gt (swp L i p) j = gt L j := by
  simp [swp, gt, List.getD_eq_getElem?_getD, h1.symm, h2.symm]

theorem swp_perm (L : List (List Int)) (i p : Nat) (hi : i < L.length) (hp : p < L.length) : (swp L i p).Perm L := by
  have e1 : gt L p = L[p] := by simp [gt, List.getD_eq_getElem?_getD, hp]
  have e2 : gt L i = L[i] := by simp [gt, List.getD_eq_getElem?_getD, hi]
  rw [swp, e1, e2]
  exact List.set_set_perm hi hp
theorem swp_len15 (L : List (List Int)) (i p : Nat) (hi : i < L.length) (hp : p < L.length) (h : ∀ m ∈ L, m.length = 15) : ∀ m ∈ swp L i p, m.length = 15 := fun m hm =>
  h m ((swp_perm L i p hi hp).mem_iff.1 hm)

/-- A heap but for the way up from i. -/
def UpExc (L : List (List Int)) (i : Nat) : Prop :=
  (∀ j, 0 < j → j < L.length → j ≠ i → le (gt L ((j - 1) / 2)) (gt L j)) ∧
  (∀ j, 0 < j → j < L.length → (j - 1) / 2 = i → 0 < i → le (gt L ((i - 1) / 2)) (gt L j))

theorem up_start (ms : List (List Int)) (m : List Int) (h : Heap ms) : UpExc (ms ++ [m]) ms.length := by
  have hg : ∀ j, j < ms.length → gt (ms ++ [m]) j = gt ms j := fun j hj => by simp [gt, List.getD_eq_getElem?_getD, List.getElem?_append, hj]
  constructor
  · intro j h0 hj hne
    simp at hj
    rw [hg j (by omega), hg _ (by omega)]
    exact h j h0 (by omega)
  · intro j h0 hj hq
    simp at hj
    omega
theorem up_root {L : List (List Int)} (h : UpExc L 0) : Heap L := fun j h0 hj => h.1 j h0 hj (by omega)
theorem up_stop {L : List (List Int)} {i : Nat} (h : UpExc L i) (hb : bef (gt L i) (gt L ((i - 1) / 2)) = false) : Heap L := fun j h0 hj => by
  by_cases e : j = i
  · subst e; exact hb
  · exact h.1 j h0 hj e
theorem up_step {L : List (List Int)} {i : Nat} (h : UpExc L i) (h0 : 0 < i) (hi : i < L.length) (hb : bef (gt L i) (gt L ((i - 1) / 2)) = true) : UpExc (swp L i ((i - 1) / 2)) ((i - 1) / 2) := by
  obtain ⟨p, hp⟩ : ∃ p, p = (i - 1) / 2 := ⟨_, rfl⟩
  rw [← hp] at hb ⊢
  have hpi : p < i := by omega
  have gi := swp_i L i p hi (by omega)
  have gp := swp_p L i p (by omega)
  have go := swp_other L i p
  constructor
  · intro j hj0 hj hne
    rw [swp_length] at hj
    by_cases e : j = i
    · subst e
      rw [← hp, gi, gp]; exact le_of_bef hb
    · rw [go j e hne]
      by_cases q1 : (j - 1) / 2 = i
      · rw [q1, gi]
        have := h.2 j hj0 hj q1 h0
        rwa [← hp] at this
      · by_cases q2 : (j - 1) / 2 = p
        · rw [q2, gp]
          have := h.1 j hj0 hj e
          rw [q2] at this
          exact le_trans (le_of_bef hb) this
        · rw [go _ q1 q2]; exact h.1 j hj0 hj e
  · intro j hj0 hj hq hp0
    rw [swp_length] at hj
    have hr : le (gt L ((p - 1) / 2)) (gt L p) := h.1 p hp0 (by omega) (by omega)
    rw [go ((p - 1) / 2) (by omega) (by omega)]
    by_cases e : j = i
    · subst e; rw [gi]; exact hr
    · rw [go j e (by omega)]
      have := h.1 j hj0 hj e
      rw [hq] at this
      exact le_trans hr this

end Go.Proofs.Qxb6617920a
