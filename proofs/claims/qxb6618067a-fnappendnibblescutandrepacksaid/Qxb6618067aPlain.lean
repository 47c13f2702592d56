/- Seat b6618067a: the plain side: bytes and their nibbles. -/
import GoSem.Core.World
namespace Go.Proofs.Qxb6618067a
set_option linter.unusedVariables false

/-- The nibbles of a row of bytes. -/
def nibs : List Int → List Int
  | [] => []
  | z :: zs => (z / 16) :: (z % 16) :: nibs zs
def Bs (zs : List Int) : Prop := ∀ z ∈ zs, 0 ≤ z ∧ z ≤ 255

theorem nibs_length : ∀ zs : List Int, (nibs zs).length = 2 * zs.length
  | [] => rfl
  | z :: zs => by simp only [nibs, List.length_cons, nibs_length zs]; omega
theorem nibs_append : ∀ a b : List Int, nibs (a ++ b) = nibs a ++ nibs b
  | [], b => rfl
  | z :: a, b => by simp only [List.cons_append, nibs, nibs_append a b]
theorem nibs_take_succ {zs : List Int} {k : Nat} (h : k < zs.length) : nibs (zs.take (k + 1)) = nibs (zs.take k) ++ [zs.getD k 0 / 16, zs.getD k 0 % 16] := by
  rw [List.take_succ_eq_append_getElem h, nibs_append]
  simp [nibs, List.getD_eq_getElem?_getD, h]
theorem nibs_hi : ∀ (zs : List Int) (j : Nat), j < zs.length → (nibs zs).getD (2 * j) 0 = zs.getD j 0 / 16 ∧ (nibs zs).getD (2 * j + 1) 0 = zs.getD j 0 % 16
  | [], j, h => by simp at h
  | z :: zs, 0, h => by simp [nibs]
  | z :: zs, j + 1, h => by
    have := nibs_hi zs j (by simpa using h)
    simp only [nibs]
    rw [show 2 * (j + 1) = 2 * j + 1 + 1 by omega, show 2 * j + 1 + 1 + 1 = 2 * j + 1 + 1 + 1 from rfl]
    simpa using this
theorem bs_nibs {zs : List Int} (h : Bs zs) : Bs (nibs zs) := by
  induction zs with
  | nil => intro z hz; simp [nibs] at hz
  | cons a zs ih =>
    intro z hz
    have ha := h a List.mem_cons_self
    have := ih (fun z hz => h z (List.mem_cons_of_mem _ hz))
    simp only [nibs, List.mem_cons] at hz
    rcases hz with rfl | rfl | hz
    · omega
    · omega
    · exact this z hz
theorem bs_append {a b : List Int} (h : Bs a) (k : Bs b) : Bs (a ++ b) := fun z hz => (List.mem_append.1 hz).elim (h z) (k z)
theorem bs_take {a : List Int} (h : Bs a) (k : Nat) : Bs (a.take k) := fun z hz => h z (List.mem_of_mem_take hz)
theorem bs_drop {a : List Int} (h : Bs a) (k : Nat) : Bs (a.drop k) := fun z hz => h z (List.mem_of_mem_drop hz)
theorem bs_get {a : List Int} (h : Bs a) (k : Nat) : 0 ≤ a.getD k 0 ∧ a.getD k 0 ≤ 255 := by
  by_cases hk : k < a.length
  · have e : a.getD k 0 = a[k] := by simp [List.getD_eq_getElem?_getD, hk]
    rw [e]; exact h _ (List.getElem_mem hk)
  · have e : a.getD k 0 = 0 := by simp [List.getD_eq_getElem?_getD, Nat.le_of_not_lt hk]
    omega

/-- The lexicographic order: -1, 0 or 1. -/
def cmp : List Int → List Int → Int
  | [], [] => 0
  | [], _ :: _ => -1
  | _ :: _, [] => 1
  | x :: a, y :: b => if x < y then -1 else if y < x then 1 else cmp a b
theorem cmp_pre : ∀ (d a b : List Int), cmp (d ++ a) (d ++ b) = cmp a b
  | [], a, b => rfl
  | x :: d, a, b => by simp only [List.cons_append, cmp]; simp [cmp_pre d a b]
theorem cmp_nibs : ∀ (a b : List Int), Bs a → Bs b → cmp (nibs a) (nibs b) = cmp a b
  | [], [], _, _ => rfl
  | [], y :: b, _, _ => rfl
  | x :: a, [], _, _ => rfl
  | x :: a, y :: b, ha, hb => by
    have h1 := ha x List.mem_cons_self
    have h2 := hb y List.mem_cons_self
    have ih := cmp_nibs a b (fun z hz => ha z (List.mem_cons_of_mem _ hz)) (fun z hz => hb z (List.mem_cons_of_mem _ hz))
    simp only [nibs, cmp, ih]
    by_cases k1 : x < y
    · rw [if_pos k1]
      by_cases k2 : x / 16 < y / 16
      · rw [if_pos k2]
      · rw [if_neg k2, if_neg (by omega), if_pos (by omega)]
    · rw [if_neg k1]
      by_cases k3 : y < x
      · rw [if_pos k3]
        by_cases k2 : y / 16 < x / 16
        · rw [if_neg (by omega), if_pos k2]
        · rw [if_neg (by omega), if_neg k2, if_neg (by omega), if_pos (by omega)]
      · rw [if_neg k3]
        obtain rfl : x = y := by omega
        simp
theorem cmp_step {a b : List Int} {k : Nat} (ha : k < a.length) (hb : k < b.length) : cmp (a.drop k) (b.drop k) = if a.getD k 0 < b.getD k 0 then -1 else if b.getD k 0 < a.getD k 0 then 1 else cmp (a.drop (k + 1)) (b.drop (k + 1)) := by
  rw [List.drop_eq_getElem_cons ha, List.drop_eq_getElem_cons hb]
  simp [cmp, List.getD_eq_getElem?_getD, ha, hb]
theorem cmp_end {a b : List Int} {k : Nat} (h : k = min a.length b.length) : cmp (a.drop k) (b.drop k) = if a.length < b.length then -1 else if b.length < a.length then 1 else 0 := by
  by_cases h1 : a.length < b.length
  · rw [if_pos h1, List.drop_eq_nil_of_le (by omega), List.drop_eq_getElem_cons (by omega)]; rfl
  · rw [if_neg h1]
    by_cases h2 : b.length < a.length
    · rw [if_pos h2, List.drop_eq_getElem_cons (l := a) (by omega), List.drop_eq_nil_of_le (as := b) (by omega)]; rfl
    · rw [if_neg h2, List.drop_eq_nil_of_le (by omega), List.drop_eq_nil_of_le (by omega)]; rfl
end Go.Proofs.Qxb6618067a
