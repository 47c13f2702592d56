/- Seat b6617920a: small laws on memory: a whole message loaded or stored in one step; rows of messages. -/
import Derived.Test.Qxb6617920aProg
import Derived.Test.Qxb6617920aPlain
import Derived.WalkKit
import Derived.WalkSpells
import Derived.KernelRfl
import Derived.Deep.RegionHeld3
import Derived.Deep.MidRow
namespace Go.Proofs.Qxb6617920a
open Go.RowKit
set_option linter.unusedSimpArgs false
set_option linter.unusedVariables false

theorem Try.size34 : (Try.prog.info? 34).map (·.size) = some 15 := by kernel_rfl
theorem Try.size40 : (Try.prog.info? 40).map (·.size) = some 15 := by kernel_rfl

/-- A load of a whole variable, kept whole from the walk's simp. -/
def ldS (t : TypeId) (p : Value) : Sem Next := do pure (.value (← Instr.loadAt t p))
/-- A store of a whole variable, likewise. -/
def stS (t : TypeId) (p x : Value) : Sem Next := do Instr.storeAt t p x; pure .skip

theorem exec_ld34 (f : Operand → Value) (dst : Option Tmp) (x : Operand) (ty : TypeId) (pos : String) (after : Array Edge) (g : Option (Nat × Bool)) :
    execOp f ⟨dst, .load 34 x, ty, pos, after, g⟩ = ldS 34 (f x) := rfl
theorem exec_ld40 (f : Operand → Value) (dst : Option Tmp) (x : Operand) (ty : TypeId) (pos : String) (after : Array Edge) (g : Option (Nat × Bool)) :
    execOp f ⟨dst, .load 40 x, ty, pos, after, g⟩ = ldS 40 (f x) := rfl
theorem exec_st34 (f : Operand → Value) (dst : Option Tmp) (x y : Operand) (ty : TypeId) (pos : String) (after : Array Edge) (g : Option (Nat × Bool)) :
    execOp f ⟨dst, .store 34 x y, ty, pos, after, g⟩ = stS 34 (f x) (f y) := rfl
theorem exec_st40 (f : Operand → Value) (dst : Option Tmp) (x y : Operand) (ty : TypeId) (pos : String) (after : Array Edge) (g : Option (Nat × Bool)) :
    execOp f ⟨dst, .store 40 x y, ty, pos, after, g⟩ = stS 40 (f x) (f y) := rfl

theorem run_ld34 {w : World} {b o : Nat} {m : List Int} (h : w.rangeAt b o (mc m)) (hm : m.length = 15) :
    Sem.run Try.prog (ldS 34 (.pointer (some ⟨b, o, none⟩))) w = .ok (.value (.agg (mc m).toArray)) w := by
  simp only [ldS, Sem.run_bind, run_loadAt_mid w b o 34 (mc m) _ h Try.underlying34 rfl (by rw [Try.size34, mc_length m hm]), Result.andThen_ok, Sem.run_pure]
theorem run_ld40 {w : World} {b o : Nat} {m : List Int} (h : w.rangeAt b o (mc m)) (hm : m.length = 15) :
    Sem.run Try.prog (ldS 40 (.pointer (some ⟨b, o, none⟩))) w = .ok (.value (.agg (mc m).toArray)) w := by
  simp only [ldS, Sem.run_bind, run_loadAt_mid w b o 40 (mc m) _ h Try.underlying40 rfl (by rw [Try.size40, mc_length m hm]), Result.andThen_ok, Sem.run_pure]

theorem oneCell_mc (m : List Int) : (mc m).toArray.all (·.oneCell') = true :=
  all_oneCell_toArray (fun v hv => by
    obtain ⟨i, hi, h⟩ := List.mem_iff_getElem.1 hv
    simp only [mc, List.getElem_zipWith] at h
    subst h
    rfl)

theorem run_st34 {w : World} {b o : Nat} {m : List Int} (h : w.there b o 15) (hm : m.length = 15) :
    Sem.run Try.prog (stS 34 (.pointer (some ⟨b, o, none⟩)) (.agg (mc m).toArray)) w = .ok .skip (w.setCells b o (mc m)) := by
  simp only [stS, Sem.run_bind, run_storeAt_mid w b o 34 (mc m).toArray (by simpa [mc_length m hm] using h) (by rw [Try.size34]; simp [mc_length m hm]) (oneCell_mc m), Result.andThen_ok, Sem.run_pure]
theorem run_st40 {w : World} {b o : Nat} {m : List Int} (h : w.there b o 15) (hm : m.length = 15) :
    Sem.run Try.prog (stS 40 (.pointer (some ⟨b, o, none⟩)) (.agg (mc m).toArray)) w = .ok .skip (w.setCells b o (mc m)) := by
  simp only [stS, Sem.run_bind, run_storeAt_mid w b o 40 (mc m).toArray (by simpa [mc_length m hm] using h) (by rw [Try.size40]; simp [mc_length m hm]) (oneCell_mc m), Result.andThen_ok, Sem.run_pure]

/-- The messages ms lie in w from offset off of block b on. -/
def Rows15 (w : World) (b off : Nat) (ms : List (List Int)) : Prop := ∀ i, i < ms.length → w.rangeAt b (off + i * 15) (mc (ms.getD i []))
/-- The messages ms lie in w behind the slice address a. -/
def RowAt (w : World) (a : Option Addr) (ms : List (List Int)) : Prop := ms = [] ∨ ∃ b off, a = some ⟨b, off, none⟩ ∧ Rows15 w b off ms

theorem rangeAt_below {B : Nat} {w w' : World} (h : Below B w w') {b o : Nat} {cs : List Value} (hr : w.rangeAt b o cs) (hb : b < B) : w'.rangeAt b o cs := fun j v hv => by
  rw [h.cell (p := ⟨b, o + j, none⟩) hb]; exact hr j v hv
theorem there_below {B : Nat} {w w' : World} (h : Below B w w') {b o n : Nat} (hr : w.there b o n) (hb : b < B) : w'.there b o n := fun j hj => by
  rw [h.cell (p := ⟨b, o + j, none⟩) hb, h.frozen (p := ⟨b, o + j, none⟩) hb]; exact hr j hj
theorem rows_below {B : Nat} {w w' : World} (h : Below B w w') {b off : Nat} {ms : List (List Int)} (hr : Rows15 w b off ms) (hb : b < B) : Rows15 w' b off ms := fun i hi => rangeAt_below h (hr i hi) hb

theorem rangeAt_lt {w : World} {b o : Nat} {m : List Int} (h : w.rangeAt b o (mc m)) (hm : m.length = 15) : b < w.heap.size := by
  have h0 : 0 < (mc m).length := by rw [mc_length m hm]; omega
  exact block_lt_of_cell (h 0 _ (List.getElem?_eq_getElem h0))

theorem getD_len15 {ms : List (List Int)} (hm : ∀ m ∈ ms, m.length = 15) {i : Nat} (hi : i < ms.length) : (ms.getD i []).length = 15 := by
  rw [List.getD_eq_getElem?_getD, List.getElem?_eq_getElem hi]
  exact hm _ (List.getElem_mem hi)

theorem rows_lt {w : World} {b off : Nat} {ms : List (List Int)} (h : Rows15 w b off ms) (hm : ∀ m ∈ ms, m.length = 15) (hn : 0 < ms.length) : b < w.heap.size :=
  rangeAt_lt (h 0 hn) (getD_len15 hm hn)

theorem setRow_alloc_new (w : World) (old cs : Array Value) (t : TypeId) (fr : Nat × Nat) : (w.alloc (.cells old t fr)).setRow w.heap.size cs = w.alloc (.cells cs t fr) := by
  show ({ w with heap := _ } : World) = { w with heap := _ }
  congr 1
  show (w.heap.push _).modify w.heap.size _ = w.heap.push _
  apply Array.ext_getElem?
  intro i
  rw [Array.getElem?_modify, Array.getElem?_push, Array.getElem?_push]
  by_cases h : w.heap.size = i
  · subst h; simp
  · rw [if_neg h]; simp [Ne.symm h]

/-- A whole message is stored into a block that was made for it. -/
theorem run_st40_row {w : World} {g : Nat} {old : Array Value} {t : TypeId} {m : List Int} (hg : w.heap[g]? = some (.cells old t (0, 0))) (ho : old.size = 15) (hm : m.length = 15) :
    Sem.run Try.prog (stS 40 (.pointer (some ⟨g, 0, none⟩)) (.agg (mc m).toArray)) w = .ok .skip (w.setRow g (mc m).toArray) := by
  simp only [stS, Instr.storeAt, Instr.sureAddr, Sem.run_bind, Sem.run_pure, Result.andThen_ok, run_storeVar_row w g t 40 old (mc m).toArray hg (by rw [Try.size40]; simp [mc_length m hm]) (by simp [mc_length m hm, ho]) (oneCell_mc m)]
theorem run_st34_row {w : World} {g : Nat} {old : Array Value} {t : TypeId} {m : List Int} (hg : w.heap[g]? = some (.cells old t (0, 0))) (ho : old.size = 15) (hm : m.length = 15) :
    Sem.run Try.prog (stS 34 (.pointer (some ⟨g, 0, none⟩)) (.agg (mc m).toArray)) w = .ok .skip (w.setRow g (mc m).toArray) := by
  simp only [stS, Instr.storeAt, Instr.sureAddr, Sem.run_bind, Sem.run_pure, Result.andThen_ok, run_storeVar_row w g t 34 old (mc m).toArray hg (by rw [Try.size34]; simp [mc_length m hm]) (by simp [mc_length m hm, ho]) (oneCell_mc m)]

theorem there_sub {w : World} {b o n : Nat} (h : w.there b o n) {o' n' : Nat} (h1 : o ≤ o') (h2 : o' + n' ≤ o + n) : w.there b o' n' := fun j hj => by
  have := h (o' - o + j) (by omega)
  rwa [show o + (o' - o + j) = o' + j by omega] at this

/-- Message i of a row is written. -/
theorem rows_set {w : World} {b off n i : Nat} {ms ms' : List (List Int)} {x : List Int} (h : Rows15 w b off ms) (ht : w.there b off (n * 15)) (hi : i < n) (hx : x.length = 15) (hl : ∀ j, j < ms.length → (ms.getD j []).length = 15)
    (ho : ∀ j, j < ms'.length → j ≠ i → j < ms.length ∧ ms'.getD j [] = ms.getD j []) (hs : i < ms'.length → ms'.getD i [] = x) :
    Rows15 (w.setCells b (off + i * 15) (mc x)) b off ms' := fun j hj => by
  have hmx := mc_length x hx
  by_cases e : j = i
  · subst e
    rw [hs hj]
    exact World.rangeAt_setCells_same _ _ _ _ (by rw [hmx]; exact there_sub ht (by omega) (by omega))
  · obtain ⟨h1, h2⟩ := ho j hj e
    rw [h2]
    refine World.rangeAt_setCells_apart (h j h1) _ _ _ (Or.inr ?_)
    rw [mc_length _ (hl j h1), hmx]
    omega

theorem rows_drew {w : World} {b off : Nat} {ms : List (List Int)} (h : Rows15 w b off ms) : Rows15 w.drew b off ms := fun i hi => (World.rangeAt_drew _ _ _ _).2 (h i hi)

theorem size_setCells (g : Nat) : ∀ (vs : List Value) (o : Nat) (w : World), (w.setCells g o vs).heap.size = w.heap.size
  | [], _, _ => rfl
  | v :: r, o, w => by rw [World.setCells, size_setCells g r]; simp [World.setCell]

def zeros15 : List Int := [0, 0, 0, 0, 0, 0, 0, 0, 0, 0, 0, 0, 0, 0, 0]
/-- What 'make' lays for n messages. -/
def made15 (n : Nat) : Array Value := madeCells (mc zeros15).toArray (n * 15)
theorem size_made15 (n : Nat) : (made15 n).size = n * 15 := size_madeCells _ _
theorem there_block {w : World} {g n : Nat} {cur : Array Value} {t : TypeId} (h : w.heap[g]? = some (.cells cur t (0, 0))) (hn : cur.size = n) : w.there g 0 n := fun j hj => by
  have := cell_of_row w g (0 + j) cur t (0, 0) h
  rw [this, frozen_of_row w g _ cur t h]
  simp; omega

theorem Try.info40 : (Try.prog.info? 40).map (fun i => (i.zero, i.size, i.bytes)) = some (some (.agg (mc zeros15).toArray), 15, 112) := by kernel_rfl
theorem Try.info34 : (Try.prog.info? 34).map (fun i => (i.zero, i.size, i.bytes)) = some (some (.agg (mc zeros15).toArray), 15, 112) := by kernel_rfl

theorem run_make40 (n : Nat) (hn : n ≤ 1000000) (w : World) : (Instr.makeSlice 30 (.int .i64 n) (.int .i64 n)).run Try.prog w = .ok (.slice (some ⟨w.heap.size, 0, none⟩) n n) (w.alloc (.cells (made15 n) 40)) := by
  obtain ⟨i, hi, hz, hs, hb⟩ := info_parts Try.info40
  have := run_make (P := Try.prog) w 30 40 i _ Try.underlying30 hi hz .i64 .i64 n n (by omega) (by omega) (by rw [hb]; omega) (by omega)
  rw [this]
  simp [hs, made15, Value.cells]
theorem run_make34 (n : Nat) (hn : n ≤ 1000000) (w : World) : (Instr.makeSlice 24 (.int .i64 n) (.int .i64 n)).run Try.prog w = .ok (.slice (some ⟨w.heap.size, 0, none⟩) n n) (w.alloc (.cells (made15 n) 34)) := by
  obtain ⟨i, hi, hz, hs, hb⟩ := info_parts Try.info34
  have := run_make (P := Try.prog) w 24 34 i _ Try.underlying24 hi hz .i64 .i64 n n (by omega) (by omega) (by rw [hb]; omega) (by omega)
  rw [this]
  simp [hs, made15, Value.cells]

theorem below_setRow {B : Nat} {a w : World} (h : Below B a w) {g : Nat} (hg : B ≤ g) (cs : Array Value) : Below B a (w.setRow g cs) :=
  h.trans ⟨rfl, rfl, rfl, by simp, fun k hk => setRow_other w g k cs (by omega)⟩
theorem below_setCells {B : Nat} {a : World} {g : Nat} (hg : B ≤ g) : ∀ (vs : List Value) (o : Nat) (w : World), Below B a w → Below B a (w.setCells g o vs)
  | [], _, _, h => h
  | v :: r, o, w, h => by rw [World.setCells]; exact below_setCells hg r (o + 1) _ (h.setCell (p := ⟨g, o, none⟩) hg v)

end Go.Proofs.Qxb6617920a
