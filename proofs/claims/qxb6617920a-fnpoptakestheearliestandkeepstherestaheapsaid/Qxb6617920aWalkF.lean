import Derived.Test.Qxb6617920aWalkE
import Derived.Deep.QuietTactic
import Derived.BigQuiet
namespace Go.Proofs.Qxb6617920a
open Go.RowKit
set_option linter.unusedSimpArgs false
set_option linter.unusedVariables false

theorem intAt_cell {w : World} {b off : Nat} {zs : List Int} (h : w.rangeAt b off (iv zs)) {k : Nat} (hk : k < zs.length) : w.cell? ⟨b, off + k, none⟩ = some (.int .i64 (zs.getD k 0)) := by
  refine h k _ ?_
  simp [iv, List.getElem?_map, hk]

theorem intAt_below {B : Nat} {w w' : World} (h : Below B w w') {a : Option Addr} {zs : List Int} (hr : IntAt w a zs) (hB : ∀ x, a = some x → zs ≠ [] → x.block < B) : IntAt w' a zs := by
  rcases hr with h0 | ⟨b, off, rfl, hr⟩
  · exact Or.inl h0
  · by_cases hz : zs = []
    · exact Or.inl hz
    · exact Or.inr ⟨b, off, rfl, rangeAt_below h hr (hB _ rfl hz)⟩

theorem intRange_lt {w : World} {b off : Nat} {zs : List Int} (h : w.rangeAt b off (iv zs)) (hz : 0 < zs.length) : b < w.heap.size := block_lt_of_cell (intAt_cell h hz)

theorem intOwn_at {base : Nat} {w : World} {a : Option Addr} {zs : List Int} (h : IntOwn base w a zs) : IntAt w a zs := by
  rcases h with h | ⟨g, _, rfl, hg⟩
  · exact Or.inl h
  · refine Or.inr ⟨g, 0, rfl, fun j v hv => ?_⟩
    rw [cell_of_row w g (0 + j) _ 2 (0, 0) hg]
    simpa using hv

set_option maxHeartbeats 800000 in
theorem equal_any (a b : Option Addr) (ca cb : Nat) (zs : List Int) (w : World) (ha : IntAt w a zs) (hb : IntAt w b zs) (hn : zs.length ≤ 1000000) :
    Calls Try.prog 17 #[.slice a zs.length ca, .slice b zs.length cb] w fun e w' => e = .returned (.bool true) ∧ Below w.heap.size w w' := by
  go_enter Try.func17, Try.ntmps17
  go_wp2
  go_loopw [5] (fun i wr => ∃ k : Nat, i = .int .i64 k ∧ k ≤ zs.length ∧ Below w.heap.size w wr) (fun i _ => zs.length - (intOf i).toNat)
  case atStart => exact ⟨0, rfl, Nat.zero_le _, Below.refl _ _⟩
  case round =>
    obtain ⟨k, rfl, hk, hbel⟩ := hrel
    by_cases hlt : k < zs.length
    · rcases ha with rfl | ⟨b1, o1, rfl, ha⟩
      · simp at hlt
      rcases hb with rfl | ⟨b2, o2, rfl, hb⟩
      · simp at hlt
      have h1 := intAt_cell (rangeAt_below hbel ha (intRange_lt ha (by omega))) hlt
      have h2 := intAt_cell (rangeAt_below hbel hb (intRange_lt hb (by omega))) hlt
      obtain ⟨z, hz⟩ : ∃ z, z = zs.getD k 0 := ⟨_, rfl⟩
      rw [← hz] at h1 h2
      have hk2 : (k : Int) < (zs.length : Int) := by omega
      clear hz ha hb
      go_wp2_with fail
      go_quiet (fail)
      go_wp2
      go_roundw
      case rel => exact ⟨k + 1, by go_num, by omega, below_drewN hbel _⟩
      case measure => simp [intOf]; omega
    · go_wp2
      go_ret
      exact ⟨rfl, hbel⟩
end Go.Proofs.Qxb6617920a
