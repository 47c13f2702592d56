/- Seat b6617981a: ZZevictions, available, answer, Reclaim. -/
import Derived.Test.Qxb6617981aWalkD
import Derived.Test.Qxb6617981aPlainB
import Derived.Deep.QuietTactic
import Derived.BigQuiet
namespace Go.Proofs.Qxb6617981a
open Go.RowKit
set_option linter.unusedSimpArgs false
set_option linter.unusedVariables false

theorem evictions_any (av tg : Int) (pr u : Bool) (a : Option Addr) (cap : Nat) (ls : List (List Int)) (hg : Good ls) (h1 : pr = true → -9223372036854775807 ≤ av ∧ av < tg ∧ tg ≤ 9223372036854775807) (w : World) (hr : RowP w a ls) (hn : ls.length ≤ 1000000) :
    Calls Try.prog 18 #[.int .i64 av, .bool pr, .int .i64 tg, .slice a ls.length cap, .bool u] w fun e w' => e = .returned (.tuple #[.int .i64 (evp pr u (tg - av) ls).1, .bool (evp pr u (tg - av) ls).2]) ∧ Below w.heap.size w w' := by
  rcases pr with _ | _
  · refine (evictions_off av tg u a ls.length cap w).mono ?_
    rintro e w' ⟨rfl, rfl⟩
    exact ⟨rfl, Below.refl _ _⟩
  · obtain ⟨k1, k2, k3⟩ := h1 rfl
    exact evictions_on av tg u a cap ls hg k1 k2 k3 w hr hn

set_option maxHeartbeats 400000 in
theorem zzev_any (av tg : Int) (pr u : Bool) (a : Option Addr) (cap : Nat) (ls : List (List Int)) (hg : Good ls) (h1 : pr = true → -9223372036854775807 ≤ av ∧ av < tg ∧ tg ≤ 9223372036854775807) (w : World) (hr : RowP w a ls) (hn : ls.length ≤ 1000000) :
    Calls Try.prog 9 #[.int .i64 av, .bool pr, .int .i64 tg, .slice a ls.length cap, .bool u] w fun e w' => e = .returned (.tuple #[.int .i64 (evp pr u (tg - av) ls).1, .bool (evp pr u (tg - av) ls).2]) ∧ Below w.heap.size w w' := by
  have HC : Hid (Calls Try.prog 18 _ _ _) := evictions_any av tg pr u a cap ls hg h1 w hr hn
  obtain ⟨r1, hr1⟩ : ∃ r1, r1 = (evp pr u (tg - av) ls).1 := ⟨_, rfl⟩
  obtain ⟨r2, hr2⟩ : ∃ r2, r2 = (evp pr u (tg - av) ls).2 := ⟨_, rfl⟩
  rw [← hr1, ← hr2] at HC ⊢
  clear hg h1 hr hr1 hr2
  go_enter Try.func9, Try.ntmps9
  go_wp2_with fail
  refine HC.out.mono ?_
  rintro e w' ⟨rfl, hb⟩
  go_wp2
  go_ret2
  exact ⟨rfl, hb⟩

set_option maxHeartbeats 400000 in
theorem available_any (c i u : Int) (w : World) (h1 : 0 ≤ i) (h2 : i ≤ c) (h3 : 0 ≤ u) (h4 : c ≤ 9223372036854775807) (h5 : u ≤ 9223372036854775807) :
    Calls Try.prog 22 #[.agg #[.int .i64 c, .int .i64 i, .int .i64 u]] w fun e w' => e = .returned (.tuple #[.int .i64 (c - i), .int .i64 (c - i - u)]) ∧ Below w.heap.size w w' := by
  have e1 : IntKind.i64.wrap (c - i - u) = c - i - u := by rw [IntKind.wrap_i64]; omega
  go_enter Try.func22, Try.ntmps22
  go_wp2_with fail
  go_quiet (fail)
  go_wp2
  go_ret2
  exact ⟨rfl, below_drewN ((Below.refl _ _).alloc (Nat.le_refl _) _) _⟩

def ans (s p : Bool) : Int := if s then 1 else if p then 2 else 0
set_option maxHeartbeats 400000 in
theorem answer_any (s p : Bool) (w : World) : Calls Try.prog 23 #[.bool s, .bool p] w fun e w' => e = .returned (.int .i64 (ans s p)) ∧ w' = w := by
  rcases s with _ | _
  · rcases p with _ | _
    · go_enter Try.func23, Try.ntmps23
      go_wp2
      go_ret
      exact ⟨rfl, rfl⟩
    · go_enter Try.func23, Try.ntmps23
      go_wp2
      go_ret
      exact ⟨rfl, rfl⟩
  · go_enter Try.func23, Try.ntmps23
    go_wp2
    go_ret
    exact ⟨rfl, rfl⟩

theorem Try.size38 : (Try.prog.info? 38).map (·.size) = some 3 := by kernel_rfl
theorem exec_st38 (f : Operand → Value) (dst : Option Tmp) (x y : Operand) (ty : TypeId) (pos : String) (after : Array Edge) (g : Option (Nat × Bool)) :
    execOp f ⟨dst, .store 38 x y, ty, pos, after, g⟩ = stS 38 (f x) (f y) := rfl
theorem run_st38 {w : World} {b : Nat} {old : Array Value} (h : w.heap[b]? = some (.cells old 38)) (ho : old.size = 3) (x y z : Int) :
    Sem.run Try.prog (stS 38 (.pointer (some ⟨b, 0, none⟩)) (.agg #[.int .i64 x, .int .i64 y, .int .i64 z])) w = .ok .skip (w.setRow b #[.int .i64 x, .int .i64 y, .int .i64 z]) := by
  simp only [stS, Instr.storeAt, Instr.sureAddr, Sem.run_bind, Sem.run_pure, Result.andThen_ok, run_storeVar_row w b 38 38 old #[.int .i64 x, .int .i64 y, .int .i64 z] h (by rw [Try.size38]; rfl) (by simp [ho]) (all_oneCell_toArray (cs := [.int .i64 x, .int .i64 y, .int .i64 z]) (fun v hv => by simp only [List.mem_cons, List.not_mem_nil, or_false] at hv; rcases hv with rfl | rfl | rfl <;> rfl))]
theorem below_setRow {B : Nat} {a w : World} (h : Below B a w) {g : Nat} (hg : B ≤ g) (cs : Array Value) : Below B a (w.setRow g cs) :=
  h.trans ⟨rfl, rfl, rfl, by simp, fun k hk => setRow_other w g k cs (by omega)⟩
section
attribute [local go_sem ↓] exec_st38
set_option maxHeartbeats 1600000 in
theorem reclaim_any (c i u th tg : Int) (a : Option Addr) (cap : Nat) (ls : List (List Int)) (hg : Good ls) (h1 : 0 ≤ i) (h2 : i ≤ c) (h3 : 0 ≤ u) (h4 : c ≤ 9223372036854775807) (h5 : u ≤ 9223372036854775807) (h6 : th ≤ tg) (h7 : tg ≤ 9223372036854775807) (w : World) (hr : RowP w a ls) (hn : ls.length ≤ 1000000) :
    Calls Try.prog 15 #[.agg #[.int .i64 c, .int .i64 i, .int .i64 u], .int .i64 th, .int .i64 tg, .slice a ls.length cap] w fun e w' =>
      e = .returned (.agg #[.int .i64 (evp (decide (c - i < th)) true (tg - (c - i)) ls).1, .int .i64 (evp (decide (max (c - i - u) 0 < th)) false (tg - (c - i - u)) ls).1,
        .int .i64 (ans (evp (decide (c - i < th)) true (tg - (c - i)) ls).2 (evp (decide (max (c - i - u) 0 < th)) false (tg - (c - i - u)) ls).2)]) ∧ Below w.heap.size w w' := by
  have HG : Hid (Good ls) := hg
  clear hg
  go_enter Try.func15, Try.ntmps15
  go_wp2_with fail
  refine (available_any c i u _ h1 h2 h3 h4 h5).mono ?_
  rintro e w1 ⟨rfl, b1⟩
  have bw : Below w.heap.size w w1 := (((Below.refl _ _).alloc (Nat.le_refl _) _).alloc (by simp) _).trans (b1.mono (by simp; omega))
  have s1 : w.heap.size + 1 < w1.heap.size := by have := b1.size; simp at this; omega
  have HR1 : Hid (w1.heap[w.heap.size + 1]? = _) := (b1.block (w.heap.size + 1) (by simp)).trans (heap_alloc2_new _ _ _)
  clear b1
  go_wp2_with fail
  refine (evictions_any (c - i) tg (decide (c - i < th)) true a cap ls HG (fun h => ?_) _ (rowP_below hr bw) hn).mono ?_
  · simp at h; omega
  rintro e w2 ⟨rfl, b2⟩
  obtain ⟨p1, hp1⟩ : ∃ r1, r1 = (evp (decide (c - i < th)) true (tg - (c - i)) ls).1 := ⟨_, rfl⟩
  obtain ⟨p2, hp2⟩ : ∃ r1, r1 = (evp (decide (c - i < th)) true (tg - (c - i)) ls).2 := ⟨_, rfl⟩
  rw [← hp1, ← hp2]
  replace hp1 : Hid _ := hp1
  replace hp2 : Hid _ := hp2
  have bw2 : Below w.heap.size w w2 := bw.trans (b2.mono bw.size)
  have HR2 : Hid (w2.heap[w.heap.size + 1]? = _) := (b2.block (w.heap.size + 1) s1).trans HR1
  have s2 : w.heap.size + 1 < w2.heap.size := by have := b2.size; omega
  clear b2 HR1 s1
  go_wp2_with fail
  all_goals refine (evictions_any (c - i - u) tg _ false a cap ls HG (fun h => ?_) _ (rowP_below hr bw2) hn).mono ?_
  all_goals try (simp at h; omega)
  all_goals
    rintro e w3 ⟨rfl, b3⟩
    have bw3 : Below w.heap.size w w3 := bw2.trans (b3.mono bw2.size)
    have HR3 : Hid (w3.heap[w.heap.size + 1]? = _) := (b3.block (w.heap.size + 1) s2).trans HR2
    have s3 : w.heap.size + 1 < w3.heap.size := by have := b3.size; omega
    clear b3 HR2 s2
  · obtain ⟨q1, hq1⟩ : ∃ r1, r1 = (evp (decide (0 < th)) false (tg - (c - i - u)) ls).1 := ⟨_, rfl⟩
    obtain ⟨q2, hq2⟩ : ∃ r1, r1 = (evp (decide (0 < th)) false (tg - (c - i - u)) ls).2 := ⟨_, rfl⟩
    rw [← hq1, ← hq2]
    have hmx : max (c - i - u) 0 = 0 := by omega
    replace hq1 : Hid _ := hq1
    replace hq2 : Hid _ := hq2
    replace hmx : Hid _ := hmx
    have HS : ∀ x y z, Sem.run Try.prog (stS 38 (.pointer (some ⟨w.heap.size + 1, 0, none⟩)) (.agg #[.int .i64 x, .int .i64 y, .int .i64 z])) w3 = .ok .skip (w3.setRow (w.heap.size + 1) #[.int .i64 x, .int .i64 y, .int .i64 z]) := run_st38 HR3.out rfl
    go_wp2_with fail
    refine (answer_any p2 q2 _).mono ?_
    rintro e w4 ⟨rfl, rfl⟩
    go_wp2
    refine bodyPost_ret (results_cell_row (P := Try.prog) rfl _ _ (w.heap.size + 1) 38 _ (0, 0) _ rfl (setRow_heap _ _ _ _ 38 (0, 0) HR3.out) Try.underlying38 rfl (by rw [Try.size38]; rfl)) rfl ⟨?_, below_setRow bw3 (by omega) _⟩
    rw [hmx.out, hp1.out, hp2.out, hq1.out, hq2.out]
  · obtain ⟨q1, hq1⟩ : ∃ r1, r1 = (evp (decide (c - i - u < th)) false (tg - (c - i - u)) ls).1 := ⟨_, rfl⟩
    obtain ⟨q2, hq2⟩ : ∃ r1, r1 = (evp (decide (c - i - u < th)) false (tg - (c - i - u)) ls).2 := ⟨_, rfl⟩
    rw [← hq1, ← hq2]
    have hmx : max (c - i - u) 0 = c - i - u := by omega
    replace hq1 : Hid _ := hq1
    replace hq2 : Hid _ := hq2
    replace hmx : Hid _ := hmx
    have HS : ∀ x y z, Sem.run Try.prog (stS 38 (.pointer (some ⟨w.heap.size + 1, 0, none⟩)) (.agg #[.int .i64 x, .int .i64 y, .int .i64 z])) w3 = .ok .skip (w3.setRow (w.heap.size + 1) #[.int .i64 x, .int .i64 y, .int .i64 z]) := run_st38 HR3.out rfl
    go_wp2_with fail
    refine (answer_any p2 q2 _).mono ?_
    rintro e w4 ⟨rfl, rfl⟩
    go_wp2
    refine bodyPost_ret (results_cell_row (P := Try.prog) rfl _ _ (w.heap.size + 1) 38 _ (0, 0) _ rfl (setRow_heap _ _ _ _ 38 (0, 0) HR3.out) Try.underlying38 rfl (by rw [Try.size38]; rfl)) rfl ⟨?_, below_setRow bw3 (by omega) _⟩
    rw [hmx.out, hp1.out, hp2.out, hq1.out, hq2.out]
end
end Go.Proofs.Qxb6617981a
