import Derived.Test.Qxb6617920aEq
import Derived.Test.Qxb6617920aMulti
import Derived.Deep.QuietTactic
import Derived.BigQuiet
import Derived.WalkLawsBesides
namespace Go.Proofs.Qxb6617920a
open Go.RowKit
set_option linter.unusedSimpArgs false
set_option linter.unusedVariables false
attribute [local go_sem ↓] exec_ld34 exec_eq34

def bv (us : List Bool) : Array Value := (us.map Value.bool).toArray
theorem Try.info4 : (Try.prog.info? 4).map (fun i => (i.zero, i.size, i.bytes)) = some (some (.bool false), 1, 1) := by kernel_rfl
theorem run_make4 (n : Nat) (hn : n ≤ 1000000) (w : World) : (Instr.makeSlice 60 (.int .i64 n) (.int .i64 n)).run Try.prog w = .ok (.slice (some ⟨w.heap.size, 0, none⟩) n n) (w.alloc (.cells (bv (List.replicate n false)) 4)) := by
  obtain ⟨i, hi, hz, hs, hb⟩ := info_parts Try.info4
  have := run_make (P := Try.prog) w 60 4 i _ Try.underlying60 hi hz .i64 .i64 n n (by omega) (by omega) (by rw [hb]; omega) (by omega)
  rw [this]
  have e : madeCells (Value.bool false).cells n = bv (List.replicate n false) := by
    apply Array.toList_inj.1
    rw [show (Value.bool false).cells = #[.bool false] from rfl, toList_madeCells_one]
    simp [bv]
  simp [hs, e]

theorem bv_cell {w : World} {g : Nat} {us : List Bool} (h : w.heap[g]? = some (.cells (bv us) 4 (0, 0))) {j : Nat} (hj : j < us.length) : w.cell? ⟨g, j, none⟩ = some (.bool (us.getD j true)) := by
  rw [cell_of_row w g j _ 4 (0, 0) h]
  simp [bv, hj]
theorem bv_set {w : World} {g : Nat} {us : List Bool} (h : w.heap[g]? = some (.cells (bv us) 4 (0, 0))) (j : Nat) : (w.setCell ⟨g, j, none⟩ (.bool true)).heap[g]? = some (.cells (bv (us.set j true)) 4 (0, 0)) := by
  rw [heap_setCell_same w g j _ 4 _ h]
  congr 2
  simp [bv]

theorem rangeAt_drewN {w : World} {b o : Nat} {cs : List Value} (h : w.rangeAt b o cs) (n : Nat) : (w.drewN n).rangeAt b o cs := h

set_option maxHeartbeats 800000 in
theorem same_any (aa ab : Option Addr) (ca cb : Nat) (A B : List (List Int)) (hA : ∀ m ∈ A, m.length = 15) (hB : ∀ m ∈ B, m.length = 15) (hp : A.Perm B) (w : World) (ra : RowAt w aa A) (rb : RowAt w ab B) (hn : A.length ≤ 1000000) :
    Calls Try.prog 19 #[.slice aa A.length ca, .slice ab A.length cb] w fun e w' => e = .returned (.bool true) ∧ Below w.heap.size w w' := by
  have hlen := hp.length_eq
  have HL : Hid (A.length = B.length) := hlen
  have hmk := run_make4 A.length hn
  have HP : Hid (A.Perm B) := hp
  clear hp hlen
  go_enter Try.func19, Try.ntmps19
  go_wp2
  clear hmk
  go_loopw [6] (fun i wr => ∃ (k : Nat) (us : List Bool), i = .int .i64 k ∧ k ≤ A.length ∧ Hid (us.length = B.length) ∧ wr.heap[w.heap.size]? = some (.cells (bv us) 4 (0, 0)) ∧ Hid ((A.drop k).Perm (unused B us)) ∧ Below w.heap.size w wr) (fun i _ => A.length - (intOf i).toNat)
  case atStart => exact ⟨0, List.replicate A.length false, rfl, Nat.zero_le _, by show _ = _; simpa using HL.out, heap_alloc_new _ _, by show List.Perm _ _; rw [List.drop_zero, HL.out, unused_false]; exact HP.out, (Below.refl _ _).alloc (Nat.le_refl _) _⟩
  case round =>
    obtain ⟨k, us, rfl, hk, HU, hblk, HR, hb⟩ := hrel
    by_cases hlt : k < A.length
    · rcases ra with rfl | ⟨b1, o1, rfl, ra⟩
      · simp at hlt
      rcases rb with rfl | ⟨b2, o2, rfl, rb⟩
      · have := HL.out; simp at this; subst this; simp at hlt
      have hk2 : (k : Int) < (A.length : Int) := by omega
      have hbl1 := rows_lt ra hA (by omega)
      have hbl2 := rows_lt rb hB (by have := HL.out; omega)
      obtain ⟨wo, rfl⟩ : ∃ wo : World, wo = wr := ⟨_, rfl⟩
      go_wp2_with fail
      go_loopw [7, 8] (fun f j wi => ∃ jn : Nat, f = .bool false ∧ j = .int .i64 jn ∧ jn ≤ A.length ∧ Hid (∀ j', j' < jn → us.getD j' true = false → ¬ B.getD j' [] = A.getD k []) ∧ wi.heap[w.heap.size]? = some (.cells (bv us) 4 (0, 0)) ∧ Below w.heap.size w wi) (fun _ j _ => A.length - (intOf j).toNat)
      case atStart => exact ⟨0, rfl, rfl, Nat.zero_le _, fun j' h => by omega, hblk, hb⟩
      case round =>
        clear hblk hb
        obtain ⟨j, rfl, rfl, hj, HN, hblk, hb⟩ := hrel
        by_cases hjl : j < A.length
        · have hjB : j < B.length := by have := HL.out; omega
          have hju : j < us.length := by have := HU.out; omega
          have hcu := bv_cell hblk hju
          have hfz := frozen_of_row wr w.heap.size j _ 4 hblk
          have hj2 : (j : Int) < (A.length : Int) := by omega
          have hxl := getD_len15 hA hlt
          have hyl := getD_len15 hB hjB
          have h1 := fun n => run_ld34 (rangeAt_drewN (rangeAt_below hb (ra k hlt) hbl1) n) hxl
          have h2 := fun n => run_ld34 (rangeAt_drewN (rangeAt_below hb (rb j hjB) hbl2) n) hyl
          obtain ⟨x, hx⟩ : ∃ x, x = A.getD k [] := ⟨_, rfl⟩
          obtain ⟨y, hy⟩ : ∃ y, y = B.getD j [] := ⟨_, rfl⟩
          have HX : Hid (x = A.getD k []) := hx
          have HY : Hid (y = B.getD j []) := hy
          rw [← hx] at h1 hxl
          rw [← hy] at h2 hyl
          have heq := run_eqS y x hyl hxl
          clear hx hy
          rcases hu : us.getD j true with _ | _
          · rw [hu] at hcu
            by_cases he : y = x
            · have hd : decide (y = x) = true := by simpa using he
              rw [hd] at heq
              have HE : Hid (y = x) := he
              have HU2 : Hid (us.getD j true = false) := hu
              clear he hd hu
              go_wp2_with fail
              go_quiet (fail)
              go_wp2
              go_roundw
              case rel =>
                refine ⟨k + 1, us.set j true, by go_num, by omega, by show _ = _; simpa using HU.out, ?_, ?_, ?_⟩
                · exact bv_set (w := wr.drewN _) hblk j
                · exact perm_round HR.out hlt hjB HU.out HU2.out (by rw [← HX.out, ← HY.out]; exact HE.out)
                · exact (below_drewN hb _).setCell (p := ⟨w.heap.size, j, none⟩) (Nat.le_refl _) _
              case measure => simp [intOf]; omega
            · have hd : decide (y = x) = false := by simpa using he
              rw [hd] at heq
              have HE : Hid (¬ y = x) := he
              clear he hd hu
              go_wp2_with fail
              go_quiet (fail)
              go_wp2
              go_roundw
              case rel =>
                refine ⟨j + 1, rfl, by go_num, by omega, ?_, hblk, below_drewN hb _⟩
                intro j' hj' hu'
                by_cases e : j' = j
                · subst e; rw [← HX.out, ← HY.out]; exact HE.out
                · exact HN.out j' (by omega) hu'
              case measure => simp [intOf]; omega
          · rw [hu] at hcu
            have HU2 : Hid (us.getD j true = true) := hu
            clear hu
            go_wp2_with fail
            go_quiet (fail)
            go_wp2
            go_roundw
            case rel =>
              refine ⟨j + 1, rfl, by go_num, by omega, ?_, hblk, below_drewN hb _⟩
              intro j' hj' hu'
              by_cases e : j' = j
              · subst e; rw [HU2.out] at hu'; cases hu'
              · exact HN.out j' (by omega) hu'
            case measure => simp [intOf]; omega
        · exfalso
          obtain ⟨j', h1, h2, h3⟩ := perm_found HR.out hlt HU.out
          have := HL.out
          exact HN.out j' (by omega) h2 h3
    · go_wp2
      go_ret
      exact ⟨rfl, hb⟩
end Go.Proofs.Qxb6617920a
