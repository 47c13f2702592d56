/- Seat b6617920a: the greedy matching of sameMultiset: plain lists. -/
import Derived.Test.Qxb6617920aPlain
namespace Go.Proofs.Qxb6617920a

/-- The elements that are not marked. -/
def unused : List (List Int) → List Bool → List (List Int)
  | [], _ => []
  | _ :: _, [] => []
  | x :: b, u :: us => if u then unused b us else x :: unused b us

theorem unused_false : ∀ (b : List (List Int)), unused b (List.replicate b.length false) = b
  | [] => rfl
  | x :: b => by simp [unused, List.replicate_succ, unused_false b]

theorem unused_set : ∀ (b : List (List Int)) (us : List Bool) (j : Nat), j < b.length → us.length = b.length → us.getD j true = false →
    (unused b us).Perm (b.getD j [] :: unused b (us.set j true))
  | [], _, _, h, _, _ => by simp at h
  | x :: b, [], _, _, h, _ => by simp at h
  | x :: b, u :: us, 0, _, _, h => by
    simp at h
    subst h
    simp [unused]
  | x :: b, u :: us, j + 1, hj, hl, h => by
    have ih := unused_set b us j (by simpa using hj) (by simpa using hl) (by simpa using h)
    simp only [unused, List.set_cons_succ, List.getD_cons_succ]
    cases u
    · simp only [Bool.false_eq_true, if_false]
      exact (List.Perm.cons x ih).trans (List.Perm.swap _ _ _)
    · simpa using ih

theorem unused_mem : ∀ (b : List (List Int)) (us : List Bool) (x : List Int), us.length = b.length → x ∈ unused b us → ∃ j, j < b.length ∧ us.getD j true = false ∧ b.getD j [] = x
  | [], _, _, _, h => by simp [unused] at h
  | y :: b, [], _, hl, _ => by simp at hl
  | y :: b, u :: us, x, hl, h => by
    simp only [unused] at h
    cases u
    · simp only [Bool.false_eq_true, if_false, List.mem_cons] at h
      rcases h with h | h
      · exact ⟨0, by simp, by simp, by simp [h]⟩
      · obtain ⟨j, h1, h2, h3⟩ := unused_mem b us x (by simpa using hl) h
        exact ⟨j + 1, by simpa using h1, by simpa using h2, by simpa using h3⟩
    · simp only [if_true] at h
      obtain ⟨j, h1, h2, h3⟩ := unused_mem b us x (by simpa using hl) h
      exact ⟨j + 1, by simpa using h1, by simpa using h2, by simpa using h3⟩

/-- One round of the outer loop. -/
theorem perm_round {a b : List (List Int)} {us : List Bool} {k j : Nat} (h : (a.drop k).Perm (unused b us)) (hk : k < a.length) (hj : j < b.length) (hl : us.length = b.length) (hu : us.getD j true = false)
    (he : b.getD j [] = a.getD k []) : (a.drop (k + 1)).Perm (unused b (us.set j true)) := by
  have h1 := h.trans (unused_set b us j hj hl hu)
  rw [he] at h1
  rw [List.drop_eq_getElem_cons hk] at h1
  have e : a.getD k [] = a[k] := by simp [List.getD_eq_getElem?_getD, hk]
  rw [e] at h1
  exact h1.cons_inv

theorem perm_found {a b : List (List Int)} {us : List Bool} {k : Nat} (h : (a.drop k).Perm (unused b us)) (hk : k < a.length) (hl : us.length = b.length) : ∃ j, j < b.length ∧ us.getD j true = false ∧ b.getD j [] = a.getD k [] := by
  refine unused_mem b us _ hl (h.mem_iff.1 ?_)
  have e : a.getD k [] = a[k] := by simp [List.getD_eq_getElem?_getD, hk]
  rw [e, List.drop_eq_getElem_cons hk]
  exact List.mem_cons_self

end Go.Proofs.Qxb6617920a
