/- Seat b6617981a: small laws on memory: a whole line, a whole Pods loaded or stored in one step. -/
import Derived.Test.Qxb6617981aProg
import Derived.Test.Qxb6617981aPlain
import Derived.WalkKit
import Derived.WalkSpells
import Derived.WalkLawsBesides
import Derived.KernelRfl
import Derived.Deep.MidRow
namespace Go.Proofs.Qxb6617981a
open Go.RowKit
set_option linter.unusedSimpArgs false
set_option linter.unusedVariables false

theorem Try.size43 : (Try.prog.info? 43).map (·.size) = some 5 := by kernel_rfl
theorem Try.size50 : (Try.prog.info? 50).map (·.size) = some 10 := by kernel_rfl

/-- The cells of a Pods made out of a line. -/
def pc (l : List Int) : List Value := [.int .i32 (l.getD 0 0), .int .i64 (us l), .int .i64 (un l), .int .i64 (l.getD 3 0), .string ⟨#[]⟩, .int .i64 0, .int .u32 0, .bool false, .bool false, .int .i64 (ct l)]
theorem pc_length (l : List Int) : (pc l).length = 10 := rfl

def ldS (t : TypeId) (p : Value) : Sem Next := do pure (.value (← Instr.loadAt t p))
def stS (t : TypeId) (p x : Value) : Sem Next := do Instr.storeAt t p x; pure .skip
theorem exec_ld43 (f : Operand → Value) (dst : Option Tmp) (x : Operand) (ty : TypeId) (pos : String) (after : Array Edge) (g : Option (Nat × Bool)) :
    execOp f ⟨dst, .load 43 x, ty, pos, after, g⟩ = ldS 43 (f x) := rfl
theorem exec_ld50 (f : Operand → Value) (dst : Option Tmp) (x : Operand) (ty : TypeId) (pos : String) (after : Array Edge) (g : Option (Nat × Bool)) :
    execOp f ⟨dst, .load 50 x, ty, pos, after, g⟩ = ldS 50 (f x) := rfl
theorem exec_st43 (f : Operand → Value) (dst : Option Tmp) (x y : Operand) (ty : TypeId) (pos : String) (after : Array Edge) (g : Option (Nat × Bool)) :
    execOp f ⟨dst, .store 43 x y, ty, pos, after, g⟩ = stS 43 (f x) (f y) := rfl
theorem exec_st50 (f : Operand → Value) (dst : Option Tmp) (x y : Operand) (ty : TypeId) (pos : String) (after : Array Edge) (g : Option (Nat × Bool)) :
    execOp f ⟨dst, .store 50 x y, ty, pos, after, g⟩ = stS 50 (f x) (f y) := rfl

theorem run_ld43 {w : World} {b o : Nat} {l : List Int} (h : w.rangeAt b o (lc l)) (hl : l.length = 5) :
    Sem.run Try.prog (ldS 43 (.pointer (some ⟨b, o, none⟩))) w = .ok (.value (.agg (lc l).toArray)) w := by
  simp only [ldS, Sem.run_bind, run_loadAt_mid w b o 43 (lc l) _ h Try.underlying43 rfl (by rw [Try.size43, lc_length l hl]), Result.andThen_ok, Sem.run_pure]
theorem run_ld50 {w : World} {b o : Nat} {l : List Int} (h : w.rangeAt b o (pc l)) :
    Sem.run Try.prog (ldS 50 (.pointer (some ⟨b, o, none⟩))) w = .ok (.value (.agg (pc l).toArray)) w := by
  simp only [ldS, Sem.run_bind, run_loadAt_mid w b o 50 (pc l) _ h Try.underlying50 rfl (by rw [Try.size50, pc_length l]), Result.andThen_ok, Sem.run_pure]

theorem oneCell_lc (l : List Int) : (lc l).toArray.all (·.oneCell') = true :=
  all_oneCell_toArray (fun v hv => by
    obtain ⟨i, hi, h⟩ := List.mem_iff_getElem.1 hv
    simp only [lc, List.getElem_zipWith] at h
    subst h
    rfl)
theorem oneCell_pc (l : List Int) : (pc l).toArray.all (·.oneCell') = true := all_oneCell_toArray (fun v hv => by
  simp only [pc, List.mem_cons, List.not_mem_nil, or_false] at hv
  rcases hv with rfl | rfl | rfl | rfl | rfl | rfl | rfl | rfl | rfl | rfl <;> rfl)

theorem run_st50 {w : World} {b o : Nat} {l : List Int} (h : w.there b o 10) :
    Sem.run Try.prog (stS 50 (.pointer (some ⟨b, o, none⟩)) (.agg (pc l).toArray)) w = .ok .skip (w.setCells b o (pc l)) := by
  simp only [stS, Sem.run_bind, run_storeAt_mid w b o 50 (pc l).toArray (by simpa [pc_length] using h) (by rw [Try.size50]; rfl) (oneCell_pc l), Result.andThen_ok, Sem.run_pure]

theorem setRow_alloc_new (w : World) (old cs : Array Value) (t : TypeId) (fr : Nat × Nat) : (w.alloc (.cells old t fr)).setRow w.heap.size cs = w.alloc (.cells cs t fr) := by
  show ({ w with heap := _ } : World) = { w with heap := _ }
  congr 1
  show (w.heap.push _).modify w.heap.size _ = w.heap.push _
  apply Array.ext_getElem?
  intro i
  rw [Array.getElem?_modify, Array.getElem?_push, Array.getElem?_push]
  by_cases h : w.heap.size = i
  · subst h; simp
  · rw [if_neg h]; simp [Ne.symm h]

theorem run_st43_new {w : World} {old : Array Value} {l : List Int} (ho : old.size = 5) (hl : l.length = 5) :
    Sem.run Try.prog (stS 43 (.pointer (some ⟨w.heap.size, 0, none⟩)) (.agg (lc l).toArray)) (w.alloc (.cells old 43)) = .ok .skip (w.alloc (.cells (lc l).toArray 43)) := by
  rw [← setRow_alloc_new w old (lc l).toArray 43 (0, 0)]
  simp only [stS, Instr.storeAt, Instr.sureAddr, Sem.run_bind, Sem.run_pure, Result.andThen_ok, run_storeVar_row (w.alloc (.cells old 43)) w.heap.size 43 43 old (lc l).toArray (heap_alloc_new _ _) (by rw [Try.size43]; simp [lc_length l hl]) (by simp [lc_length l hl, ho]) (oneCell_lc l)]
theorem run_st50_new {w : World} {old : Array Value} {l : List Int} (ho : old.size = 10) :
    Sem.run Try.prog (stS 50 (.pointer (some ⟨w.heap.size, 0, none⟩)) (.agg (pc l).toArray)) (w.alloc (.cells old 50)) = .ok .skip (w.alloc (.cells (pc l).toArray 50)) := by
  rw [← setRow_alloc_new w old (pc l).toArray 50 (0, 0)]
  simp only [stS, Instr.storeAt, Instr.sureAddr, Sem.run_bind, Sem.run_pure, Result.andThen_ok, run_storeVar_row (w.alloc (.cells old 50)) w.heap.size 50 50 old (pc l).toArray (heap_alloc_new _ _) (by rw [Try.size50]; rfl) (by simp [pc_length, ho]) (oneCell_pc l)]

/-- The lines ls lie in w from offset off of block b on. -/
def RowsL (w : World) (b off : Nat) (ls : List (List Int)) : Prop := ∀ i, i < ls.length → w.rangeAt b (off + i * 5) (lc (gl ls i))
def RowL (w : World) (a : Option Addr) (ls : List (List Int)) : Prop := ls = [] ∨ ∃ b off, a = some ⟨b, off, none⟩ ∧ RowsL w b off ls
/-- The Pods of the lines ls. -/
def RowsP (w : World) (b off : Nat) (ls : List (List Int)) : Prop := ∀ i, i < ls.length → w.rangeAt b (off + i * 10) (pc (gl ls i))
def RowP (w : World) (a : Option Addr) (ls : List (List Int)) : Prop := ls = [] ∨ ∃ b off, a = some ⟨b, off, none⟩ ∧ RowsP w b off ls

theorem rangeAt_below {B : Nat} {w w' : World} (h : Below B w w') {b o : Nat} {cs : List Value} (hr : w.rangeAt b o cs) (hb : b < B) : w'.rangeAt b o cs := fun j v hv => by
  rw [h.cell (p := ⟨b, o + j, none⟩) hb]; exact hr j v hv
theorem there_below {B : Nat} {w w' : World} (h : Below B w w') {b o n : Nat} (hr : w.there b o n) (hb : b < B) : w'.there b o n := fun j hj => by
  rw [h.cell (p := ⟨b, o + j, none⟩) hb, h.frozen (p := ⟨b, o + j, none⟩) hb]; exact hr j hj
theorem there_sub {w : World} {b o n : Nat} (h : w.there b o n) {o' n' : Nat} (h1 : o ≤ o') (h2 : o' + n' ≤ o + n) : w.there b o' n' := fun j hj => by
  have := h (o' - o + j) (by omega)
  rwa [show o + (o' - o + j) = o' + j by omega] at this
theorem range_lt {w : World} {b o : Nat} {cs : List Value} (h : w.rangeAt b o cs) (hn : 0 < cs.length) : b < w.heap.size := block_lt_of_cell (h 0 _ (List.getElem?_eq_getElem hn))
theorem gl_len5 {ls : List (List Int)} (hl : ∀ l ∈ ls, l.length = 5) {i : Nat} (hi : i < ls.length) : (gl ls i).length = 5 := by
  rw [gl, List.getD_eq_getElem?_getD, List.getElem?_eq_getElem hi]
  exact hl _ (List.getElem_mem hi)
theorem gl_mem {ls : List (List Int)} {i : Nat} (hi : i < ls.length) : gl ls i ∈ ls := by
  rw [gl, List.getD_eq_getElem?_getD, List.getElem?_eq_getElem hi]
  exact List.getElem_mem hi
theorem rowsL_lt {w : World} {b off : Nat} {ls : List (List Int)} (h : RowsL w b off ls) (hl : ∀ l ∈ ls, l.length = 5) (hn : 0 < ls.length) : b < w.heap.size := range_lt (h 0 hn) (by rw [lc_length _ (gl_len5 hl hn)]; omega)
theorem rowsP_lt {w : World} {b off : Nat} {ls : List (List Int)} (h : RowsP w b off ls) (hn : 0 < ls.length) : b < w.heap.size := range_lt (h 0 hn) (by rw [pc_length]; omega)
theorem rowL_below {w w' : World} {a : Option Addr} {ls : List (List Int)} (h : RowL w a ls) (hl : ∀ l ∈ ls, l.length = 5) (b : Below w.heap.size w w') : RowL w' a ls := by
  rcases h with h | ⟨g, off, rfl, h⟩
  · exact Or.inl h
  · by_cases hz : 0 < ls.length
    · exact Or.inr ⟨g, off, rfl, fun i hi => rangeAt_below b (h i hi) (rowsL_lt h hl hz)⟩
    · exact Or.inl (List.eq_nil_of_length_eq_zero (by omega))
theorem rowP_below {w w' : World} {a : Option Addr} {ls : List (List Int)} (h : RowP w a ls) (b : Below w.heap.size w w') : RowP w' a ls := by
  rcases h with h | ⟨g, off, rfl, h⟩
  · exact Or.inl h
  · by_cases hz : 0 < ls.length
    · exact Or.inr ⟨g, off, rfl, fun i hi => rangeAt_below b (h i hi) (rowsP_lt h hz)⟩
    · exact Or.inl (List.eq_nil_of_length_eq_zero (by omega))

theorem size_setCells (g : Nat) : ∀ (vs : List Value) (o : Nat) (w : World), (w.setCells g o vs).heap.size = w.heap.size
  | [], _, _ => rfl
  | v :: r, o, w => by rw [World.setCells, size_setCells g r]; simp [World.setCell]
theorem below_setCells {B : Nat} {a : World} {g : Nat} (hg : B ≤ g) : ∀ (vs : List Value) (o : Nat) (w : World), Below B a w → Below B a (w.setCells g o vs)
  | [], _, _, h => h
  | v :: r, o, w, h => by rw [World.setCells]; exact below_setCells hg r (o + 1) _ (h.setCell (p := ⟨g, o, none⟩) hg v)
theorem there_block {w : World} {g n : Nat} {cur : Array Value} {t : TypeId} (h : w.heap[g]? = some (.cells cur t (0, 0))) (hn : cur.size = n) : w.there g 0 n := fun j hj => by
  have := cell_of_row w g (0 + j) cur t (0, 0) h
  rw [this, frozen_of_row w g _ cur t h]
  simp; omega

/-- Pods k is written. -/
theorem rowsP_set {w : World} {b n k : Nat} {ls : List (List Int)} (h : RowsP w b 0 (ls.take k)) (ht : w.there b 0 (n * 10)) (hk : k < n) (hl : k < ls.length) : RowsP (w.setCells b (k * 10) (pc (gl ls k))) b 0 (ls.take (k + 1)) := fun i hi => by
  simp at hi
  by_cases e : i = k
  · subst e
    have e2 : gl (ls.take (i + 1)) i = gl ls i := by simp [gl, List.getD_eq_getElem?_getD]
    rw [e2, Nat.zero_add]
    exact World.rangeAt_setCells_same _ _ _ _ (there_sub ht (by omega) (by rw [pc_length]; omega))
  · have e2 : gl (ls.take (k + 1)) i = gl (ls.take k) i := by simp [gl, List.getD_eq_getElem?_getD, show i < k + 1 by omega, show i < k by omega]
    rw [e2]
    refine World.rangeAt_setCells_apart (h i (by simp; omega)) _ _ _ (Or.inr ?_)
    rw [pc_length, pc_length]; omega

def zeroP : List Value := [.int .i32 0, .int .i64 0, .int .i64 0, .int .i64 0, .string ⟨#[]⟩, .int .i64 0, .int .u32 0, .bool false, .bool false, .int .i64 0]
theorem Try.info50 : (Try.prog.info? 50).map (fun i => (i.zero, i.size, i.bytes)) = some (some (.agg zeroP.toArray), 10, 72) := by kernel_rfl
def made10 (n : Nat) : Array Value := madeCells zeroP.toArray (n * 10)
theorem size_made10 (n : Nat) : (made10 n).size = n * 10 := size_madeCells _ _
theorem run_make50 (n : Nat) (hn : n ≤ 1000000) (w : World) : (Instr.makeSlice 27 (.int .i64 n) (.int .i64 n)).run Try.prog w = .ok (.slice (some ⟨w.heap.size, 0, none⟩) n n) (w.alloc (.cells (made10 n) 50)) := by
  obtain ⟨i, hi, hz, hs, hb⟩ := info_parts Try.info50
  have := run_make (P := Try.prog) w 27 50 i _ Try.underlying27 hi hz .i64 .i64 n n (by omega) (by omega) (by rw [hb]; omega) (by omega)
  rw [this]
  simp [hs, made10, Value.cells]

theorem lc_cells {w : World} {b o : Nat} {l : List Int} (h : w.rangeAt b o (lc l)) (hl : l.length = 5) :
    w.cell? ⟨b, o, none⟩ = some (.int .i32 (l.getD 0 0)) ∧ w.cell? ⟨b, o + 1, none⟩ = some (.int .i64 (us l)) ∧ w.cell? ⟨b, o + 2, none⟩ = some (.int .i64 (un l)) ∧ w.cell? ⟨b, o + 3, none⟩ = some (.int .i64 (l.getD 3 0)) ∧ w.cell? ⟨b, o + 4, none⟩ = some (.int .i64 (ct l)) := by
  obtain ⟨a0, a1, a2, a3, a4, rfl⟩ := list5 l hl
  exact ⟨h 0 _ rfl, h 1 _ rfl, h 2 _ rfl, h 3 _ rfl, h 4 _ rfl⟩

end Go.Proofs.Qxb6617981a
