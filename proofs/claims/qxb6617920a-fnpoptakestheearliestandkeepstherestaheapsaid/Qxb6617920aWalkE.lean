import Derived.Test.Qxb6617920aBase
import Derived.Laws.CopyOwn
import Derived.WalkLawsBesides
namespace Go.Proofs.Qxb6617920a
open Go.RowKit
set_option linter.unusedSimpArgs false
set_option linter.unusedVariables false

def iv (zs : List Int) : List Value := zs.map (Value.int .i64)
/-- The numbers zs lie in w behind the slice address a. -/
def IntAt (w : World) (a : Option Addr) (zs : List Int) : Prop := zs = [] ∨ ∃ b off, a = some ⟨b, off, none⟩ ∧ w.rangeAt b off (iv zs)
/-- They lie in a block of their own, from base on. -/
def IntOwn (base : Nat) (w : World) (a : Option Addr) (zs : List Int) : Prop := zs = [] ∨ ∃ g, base ≤ g ∧ a = some ⟨g, 0, none⟩ ∧ w.heap[g]? = some (.cells (iv zs).toArray 2 (0, 0))

theorem Try.info2 : (Try.prog.info? 2).map (fun i => (i.zero, i.size, i.bytes)) = some (some (.int .i64 0), 1, 8) := by kernel_rfl
theorem Try.size2 : (Try.prog.info? 2).map (·.size) = some 1 := by kernel_rfl

theorem run_make2 (n : Nat) (hn : n ≤ 1000000) (w : World) : (Instr.makeSlice 23 (.int .i64 n) (.int .i64 n)).run Try.prog w = .ok (.slice (some ⟨w.heap.size, 0, none⟩) n n) (w.alloc (.cells (iv (List.replicate n 0)).toArray 2)) := by
  obtain ⟨i, hi, hz, hs, hb⟩ := info_parts Try.info2
  have := run_make (P := Try.prog) w 23 2 i _ Try.underlying23 hi hz .i64 .i64 n n (by omega) (by omega) (by rw [hb]; omega) (by omega)
  rw [this]
  have e : madeCells (Value.int IntKind.i64 0).cells n = (iv (List.replicate n 0)).toArray := by
    apply Array.toList_inj.1
    rw [show (Value.int IntKind.i64 0).cells = #[.int .i64 0] from rfl, toList_madeCells_one]
    simp [iv]
  simp [hs, e]

theorem iv_one (zs : List Int) : ∀ v ∈ iv zs, v.oneCell' = true := by
  intro v hv
  simp only [iv, List.mem_map] at hv
  obtain ⟨z, _, rfl⟩ := hv
  rfl
theorem splice_whole (cur cs : List Value) (h : cs.length = cur.length) : splice cur 0 cs = cs := by
  simp [splice, h]

set_option maxHeartbeats 800000 in
theorem clone_any (a : Option Addr) (cap : Nat) (zs : List Int) (w : World) (hr : IntAt w a zs) (hn : zs.length ≤ 1000000) :
    Calls Try.prog 11 #[.slice a zs.length cap] w fun e w' => ∃ a' c', e = .returned (.slice a' zs.length c') ∧ IntOwn w.heap.size w' a' zs ∧ Below w.heap.size w w' := by
  have hnil := fun w => Lib.run_eql_slice_nil (P := Try.prog) w 23 2 a zs.length cap 0 0 Try.underlying23
  rcases a with _ | ad
  · have hz : zs = [] := by rcases hr with h | ⟨b, off, h, _⟩; exact h; cases h
    subst hz
    simp only [Option.isNone_none, List.length_nil] at hnil ⊢
    go_enter Try.func11, Try.ntmps11
    go_wp2
    go_ret
    exact ⟨none, 0, rfl, Or.inl rfl, Below.refl _ _⟩
  · simp only [Option.isNone_some] at hnil
    have hmk := run_make2 zs.length hn
    have hl : (iv zs).length = zs.length := by simp [iv]
    go_enter Try.func11, Try.ntmps11
    go_wp2_with (refine wpList_copy_splice rfl (.tmp 9) (.tmp 10) 23 23 rfl 2 Try.underlying23 Try.size2 (some ⟨w.heap.size, 0, none⟩) (some ad) zs.length zs.length zs.length cap rfl rfl w.heap.size 0 (iv (List.replicate zs.length 0)) 2 (heap_alloc_new _ _) (iv zs) ?c1 ?c2 ?c3 (iv_one zs) w.heap.size w ?c4 (Nat.le_refl _) ?_)
    case c1 => rw [hl]; exact (Nat.min_self _).symm
    case c2 =>
      intro h0 j v hj
      rcases hr with h | ⟨b, off, he, hr⟩
      · subst h; simp at h0
      · obtain rfl : ad = ⟨b, off, none⟩ := by simpa using he
        rw [Addr.add_mid]
        exact World.rangeAt_alloc hr _ j v hj
    case c3 => simp [iv]
    case c4 => exact (Below.refl _ _).alloc (Nat.le_refl _) _
    intro w1 hw1 hb1
    go_wp2
    go_ret
    refine ⟨_, _, rfl, Or.inr ⟨w.heap.size, Nat.le_refl _, rfl, ?_⟩, hb1⟩
    have := hw1.out
    rwa [splice_whole _ _ (by simp [iv])] at this
end Go.Proofs.Qxb6617920a
