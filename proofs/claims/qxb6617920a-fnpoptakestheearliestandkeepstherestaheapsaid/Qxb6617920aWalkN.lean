import Derived.Test.Qxb6617920aWalkJ
import Derived.Test.Qxb6617920aDown
namespace Go.Proofs.Qxb6617920a
open Go.RowKit
set_option linter.unusedSimpArgs false
set_option linter.unusedVariables false

set_option maxHeartbeats 800000 in
theorem zzBytesPop_any (now seq : Int) (a b : Option Addr) (n1 c1 n2 c2 : Nat) (w : World) (h1 : n1 ≤ 9223372036854775807) (h2 : n2 ≤ 9223372036854775807) :
    Calls Try.prog 5 #[.int .i64 now, .int .u64 seq, .slice a n1 c1, .slice b n2 c2] w fun e w' => ∃ t, e = .returned (.bool t) ∧ w' = w := by
  by_cases k1 : 1048576 < n1
  · go_enter Try.func5, Try.ntmps5
    go_wp2
    go_ret
    exact ⟨_, rfl, rfl⟩
  · by_cases k2 : 1048576 < n2
    · go_enter Try.func5, Try.ntmps5
      go_wp2
      go_ret
      exact ⟨_, rfl, rfl⟩
    · by_cases k3 : 1048576 < n1 + n2
      · go_enter Try.func5, Try.ntmps5
        go_wp2
        go_ret
        exact ⟨_, rfl, rfl⟩
      · go_enter Try.func5, Try.ntmps5
        go_wp2
        go_ret
        exact ⟨_, rfl, rfl⟩

theorem mc_ends {w : World} {b o : Nat} {x : List Int} (h : w.rangeAt b o (mc x)) (hx : x.length = 15) : w.cell? ⟨b, o + 3, none⟩ = some (.int .i64 (fr x)) ∧ w.cell? ⟨b, o + 4, none⟩ = some (.int .i64 (to' x)) ∧ w.cell? ⟨b, o + 12, none⟩ = some (.int .i64 (ld x)) := by
  obtain ⟨a0, a1, a2, a3, a4, a5, a6, a7, a8, a9, a10, a11, a12, a13, a14, rfl⟩ := list15 x hx
  exact ⟨h 3 _ rfl, h 4 _ rfl, h 12 _ rfl⟩

/-- A bool is returned; if it is true, p. -/
def RetB (p : Prop) (e : Ending) : Prop := ∃ t : Bool, e = .returned (.bool t) ∧ (t = true → p)

/-- The ends of a message index n loads. -/
def Ends (m : List Int) (n : Nat) : Prop := 0 ≤ fr m ∧ fr m < n ∧ 0 ≤ to' m ∧ to' m < n

set_option maxHeartbeats 1600000 in
theorem endsIn_any (a : Option Addr) (cap : Nat) (ms : List (List Int)) (nl : Nat) (hm : ∀ m ∈ ms, m.length = 15) (w : World) (hr : RowAt w a ms) (hn : ms.length ≤ 1000000) (hnl : nl ≤ 1000000) :
    Calls Try.prog 6 #[.slice a ms.length cap, .int .i64 nl] w fun e w' => RetB (∀ i, i < ms.length → Ends (gt ms i) nl) e ∧ w' = w := by
  go_enter Try.func6, Try.ntmps6
  go_wp2
  go_loop [5] (fun i => ∃ k : Nat, i = .int .i64 k ∧ k ≤ ms.length ∧ Hid (∀ i, i < k → Ends (gt ms i) nl)) (fun i => ms.length - (intOf i).toNat)
  case atStart => exact ⟨0, rfl, Nat.zero_le _, fun i hi => by omega⟩
  case round =>
    obtain ⟨k, rfl, hk, HE⟩ := hrel
    by_cases hlt : k < ms.length
    · rcases hr with rfl | ⟨b, off, rfl, hr⟩
      · simp at hlt
      have hxl := getD_len15 hm hlt
      obtain ⟨c1, c2, _⟩ := mc_ends (hr k hlt) hxl
      have hk2 : (k : Int) < (ms.length : Int) := by omega
      obtain ⟨f, hf⟩ : ∃ f, f = fr (gt ms k) := ⟨_, rfl⟩
      obtain ⟨t, ht⟩ : ∃ t, t = to' (gt ms k) := ⟨_, rfl⟩
      have c1' : w.cell? ⟨b, off + k * 15 + 3, none⟩ = some (.int .i64 f) := by rw [hf]; exact c1
      have c2' : w.cell? ⟨b, off + k * 15 + 4, none⟩ = some (.int .i64 t) := by rw [ht]; exact c2
      have HF : Hid (f = fr (gt ms k)) := hf
      have HT : Hid (t = to' (gt ms k)) := ht
      clear hf ht c1 c2 hr hxl
      by_cases k1 : f < 0
      · go_wp2
        go_ret
        exact ⟨⟨false, rfl, fun h => by cases h⟩, rfl⟩
      · by_cases k2 : f < nl
        · by_cases k3 : t < 0
          · go_wp2
            go_ret
            exact ⟨⟨false, rfl, fun h => by cases h⟩, rfl⟩
          · by_cases k4 : t < nl
            · go_wp2
              go_round
              case rel =>
                refine ⟨k + 1, by go_num, by omega, fun i hi => ?_⟩
                by_cases e : i = k
                · subst e; exact ⟨by rw [← HF.out]; omega, by rw [← HF.out]; exact k2, by rw [← HT.out]; omega, by rw [← HT.out]; exact k4⟩
                · exact HE.out i (by omega)
              case measure => simp [intOf]; omega
            · go_wp2
              go_ret
              exact ⟨⟨false, rfl, fun h => by cases h⟩, rfl⟩
        · go_wp2
          go_ret
          exact ⟨⟨false, rfl, fun h => by cases h⟩, rfl⟩
    · go_wp2
      go_ret
      refine ⟨⟨true, rfl, fun _ i hi => HE.out i (by omega)⟩, rfl⟩

set_option maxHeartbeats 1600000 in
theorem distinct_any (a : Option Addr) (cap : Nat) (ms : List (List Int)) (hm : ∀ m ∈ ms, m.length = 15) (w : World) (hr : RowAt w a ms) (hn : ms.length ≤ 1000000) :
    Calls Try.prog 8 #[.slice a ms.length cap] w fun e w' => RetB True e ∧ Below w.heap.size w w' := by
  go_enter Try.func8, Try.ntmps8
  go_wp2
  go_loopw [3] (fun i wr => ∃ k : Nat, i = .int .i64 k ∧ k ≤ ms.length ∧ Below w.heap.size w wr) (fun i _ => ms.length - (intOf i).toNat)
  case atStart => exact ⟨0, rfl, Nat.zero_le _, Below.refl _ _⟩
  case round =>
    obtain ⟨k, rfl, hk, hb⟩ := hrel
    by_cases hlt : k < ms.length
    · rcases hr with rfl | ⟨b, off, rfl, hr⟩
      · simp at hlt
      have hbl := rows_lt hr hm (by omega)
      have hk2 : (k : Int) < (ms.length : Int) := by omega
      obtain ⟨wo, rfl⟩ : ∃ wo : World, wo = wr := ⟨_, rfl⟩
      go_wp2_with fail
      go_loopw [4] (fun j wi => ∃ jn : Nat, j = .int .i64 jn ∧ jn ≤ ms.length ∧ Below w.heap.size w wi) (fun j _ => ms.length - (intOf j).toNat)
      case atStart => exact ⟨k + 1, by go_num, by omega, hb⟩
      case round =>
        clear hb
        obtain ⟨j, rfl, hj, hb⟩ := hrel
        by_cases hjl : j < ms.length
        · have hj2 : (j : Int) < (ms.length : Int) := by omega
          obtain ⟨_, c1⟩ := mc_at (rangeAt_below hb (hr k hlt) hbl) (getD_len15 hm hlt)
          obtain ⟨_, c2⟩ := mc_at (rangeAt_below hb (hr j hjl) hbl) (getD_len15 hm hjl)
          obtain ⟨x, hx⟩ : ∃ x, x = sq (ms.getD k []) := ⟨_, rfl⟩
          obtain ⟨y, hy⟩ : ∃ y, y = sq (ms.getD j []) := ⟨_, rfl⟩
          rw [← hx] at c1
          rw [← hy] at c2
          clear hx hy
          rcases he : (x == y) with _ | _
          · go_wp2_with fail
            go_quiet (fail)
            go_wp2
            go_roundw
            case rel => exact ⟨j + 1, by go_num, by omega, below_drewN hb _⟩
            case measure => simp [intOf]; omega
          · go_wp2_with fail
            go_quiet (fail)
            go_wp2
            go_ret
            exact ⟨⟨false, rfl, fun _ => trivial⟩, below_drewN hb _⟩
        · go_wp2
          go_roundw
          case rel => exact ⟨k + 1, by go_num, by omega, hb⟩
          case measure => simp [intOf]; omega
    · go_wp2
      go_ret
      exact ⟨⟨true, rfl, fun _ => trivial⟩, hb⟩
end Go.Proofs.Qxb6617920a
