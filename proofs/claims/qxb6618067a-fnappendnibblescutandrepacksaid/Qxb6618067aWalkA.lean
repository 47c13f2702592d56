/- Seat b6618067a: appendNibbles. -/
import Derived.Test.Qxb6618067aBase
namespace Go.Proofs.Qxb6618067a
open Go.RowKit
set_option linter.unusedSimpArgs false
set_option linter.unusedVariables false

def apV (t ty : TypeId) (args : Array Value) : Sem Value := Builtin.append_ #[t, t] ty args
theorem fold_ap22 (ty : TypeId) (args : Array Value) : Builtin.append_ #[22, 22] ty args = apV 22 ty args := rfl

/-- One append of two bytes. -/
theorem append2 {base : Nat} {w : World} {v : Value} {n : Nat} {xs : List Value} (hown : w.ownsRow base 5 1 v n xs) (x y : Int) (hn : n ≤ 1000000) (hb : base ≤ w.heap.size) :
    ∃ g cap w', Sem.run Try.prog (apV 22 22 #[v, .slice (some ⟨w.heap.size, 0, none⟩) 2 2]) (w.alloc (.cells #[.int .u8 x, .int .u8 y] 5)) = .ok (.slice (some ⟨g, 0, none⟩) (n + 2) cap) w' ∧
      w'.ownsRow base 5 1 (.slice (some ⟨g, 0, none⟩) (n + 2) cap) (n + 2) (xs ++ [.int .u8 x, .int .u8 y]) ∧ Below base w w' ∧ w.heap.size < w'.heap.size := by
  obtain ⟨i, hi, hz, hs, hby⟩ := info_parts Try.info5
  obtain ⟨g, cap, w', h1, h2, h3, h4, h5⟩ := run_append_lies (P := Try.prog) (w.alloc (.cells #[.int .u8 x, .int .u8 y] 5)) 22 22 base 5 i _ 1 1 Try.underlying22 hi hz hs hby rfl (by omega) v n xs (hown.alloc _)
    ⟨w.heap.size, 0, none⟩ 2 2 [.int .u8 x, .int .u8 y] rfl (fun j u hu => by
      rw [Addr.add_mid, cell_of_row _ _ _ _ 5 (0, 0) (heap_alloc_new _ _)]
      simpa using hu) (fun u hu => by simp at hu; rcases hu with rfl | rfl <;> rfl) (by omega) (by unfold maxLen; omega) (by omega) (by simp; omega) _ rfl
  refine ⟨g, cap, w', h1, h2, ((Below.refl _ _).alloc hb _).grown h3 (by simp; omega) (fun k hk => (hown.lt k hk).1), by have := h3.size; simp at this; omega⟩

section
attribute [local go_sem ↓] fold_ap22
set_option maxHeartbeats 1600000 in
theorem appendNibbles_any (base : Nat) (v : Value) (ds : List Int) (x : Addr) (cap : Nat) (ss : List Int) (w : World) (hd : w.ownsRow base 5 1 v ds.length (bv ds)) (hs : 0 < ss.length → ∃ b off, x = ⟨b, off, none⟩ ∧ b < base ∧ w.rangeAt b off (bv ss)) (hbase : base ≤ w.heap.size) (hbs : Bs ss) (hn1 : ds.length ≤ 400000) (hn2 : ss.length ≤ 200000) :
    Calls Try.prog 11 #[v, .slice (some x) ss.length cap] w fun e w' => ∃ v', e = .returned v' ∧ w'.ownsRow base 5 1 v' (ds ++ nibs ss).length (bv (ds ++ nibs ss)) ∧ Below base w w' := by
  go_enter Try.func11, Try.ntmps11
  go_wp2
  go_loopw [0, 9] (fun x y wr => ∃ (k : Nat), y = .int .i64 k ∧ k ≤ ss.length ∧ Hid (wr.ownsRow base 5 1 x (ds ++ nibs (ss.take k)).length (bv (ds ++ nibs (ss.take k)))) ∧ Below base w wr ∧ base ≤ wr.heap.size) (fun _ y _ => ss.length - (intOf y).toNat)
  case atStart => exact ⟨0, rfl, Nat.zero_le _, by show World.ownsRow _ _ _ _ _ _ _; simpa [nibs] using hd, Below.refl _ _, hbase⟩
  case round =>
    obtain ⟨k, rfl, hk, HO, hbl, hbs2⟩ := hrel
    by_cases hlt : k < ss.length
    · have hk2 : (k : Int) < (ss.length : Int) := by omega
      obtain ⟨b, off, rfl, hb, hs⟩ := hs (by omega)
      have h1 := hs k _ (bv_get hlt)
      rw [← hbl.cell (p := ⟨b, off + k, none⟩) hb] at h1
      obtain ⟨z0, z1⟩ := bs_get hbs k
      obtain ⟨z, hz⟩ : ∃ z, z = ss.getD k 0 := ⟨_, rfl⟩
      rw [← hz] at h1 z0 z1
      have e1 : (ds ++ nibs (ss.take k)).length = ds.length + 2 * k := by simp [nibs_length]; omega
      obtain ⟨g, c2, w2, r1, r2, r3, r4⟩ := append2 HO.out (z / 16) (z % 16) (by rw [e1]; omega) hbs2
      have e2 : bv (ds ++ nibs (ss.take k)) ++ [.int .u8 (z / 16), .int .u8 (z % 16)] = bv (ds ++ nibs (ss.take (k + 1))) := by
        rw [nibs_take_succ hlt, ← hz]; simp [bv]
      have e3 : (ds ++ nibs (ss.take k)).length + 2 = (ds ++ nibs (ss.take (k + 1))).length := by
        simp only [List.length_append, nibs_length, List.length_take]; omega
      rw [e2, e3] at r2
      rw [e3] at r1
      obtain ⟨n2, hn2⟩ : ∃ n2, n2 = (ds ++ nibs (ss.take (k + 1))).length := ⟨_, rfl⟩
      rw [← hn2] at r1 r2
      have R2 : Hid (w2.ownsRow base 5 1 (.slice (some ⟨g, 0, none⟩) n2 c2) n2 (bv (ds ++ nibs (ss.take (k + 1))))) := r2
      replace hn2 : Hid (n2 = _) := hn2
      clear hs hd e1 e2 e3 hz HO r2
      go_wp2
      go_roundw
      case rel => exact ⟨k + 1, by go_num, by omega, by rw [← hn2.out]; exact R2, hbl.trans r3, by omega⟩
      case measure => simp [intOf]; omega
    · go_wp2
      go_ret
      obtain rfl : k = ss.length := by omega
      rw [List.take_length] at HO
      exact ⟨_, rfl, HO, hbl⟩

set_option maxHeartbeats 800000 in
theorem appendNibbles_nil (base : Nat) (v : Value) (w : World) : Calls Try.prog 11 #[v, .slice none 0 0] w fun e w' => e = .returned v ∧ w' = w := by
  go_enter Try.func11, Try.ntmps11
  go_wp2
  go_loopw [0, 9] (fun x y wr => x = v ∧ y = .int .i64 0 ∧ wr = w) (fun _ y _ => 0)
  case atStart => exact ⟨rfl, rfl, rfl⟩
  case round =>
    obtain ⟨rfl, rfl, rfl⟩ := hrel
    go_wp2
    go_ret
    exact ⟨rfl, rfl⟩
end

/-- appendNibbles through its shown name. -/
theorem zzappend_any (base : Nat) (v : Value) (ds : List Int) (vs : Value) (ss : List Int) (w : World) (hd : w.ownsRow base 5 1 v ds.length (bv ds)) (hs : In base w vs ss) (hbase : base ≤ w.heap.size) (hbs : Bs ss) (hn1 : ds.length ≤ 400000) (hn2 : ss.length ≤ 200000) :
    Calls Try.prog 7 #[v, vs] w fun e w' => ∃ v', e = .returned v' ∧ w'.ownsRow base 5 1 v' (ds ++ nibs ss).length (bv (ds ++ nibs ss)) ∧ Below base w w' := by
  have HC : Hid (Calls Try.prog 11 #[v, vs] w fun e w' => ∃ v', e = .returned v' ∧ w'.ownsRow base 5 1 v' (ds ++ nibs ss).length (bv (ds ++ nibs ss)) ∧ Below base w w') := by
    rcases hs with ⟨rfl, rfl⟩ | ⟨x, cap, rfl, h1, h2, h4⟩
    · refine (appendNibbles_nil base v w).mono ?_
      rintro e w' ⟨rfl, rfl⟩
      exact ⟨_, rfl, by simpa [nibs] using hd, Below.refl _ _⟩
    · exact appendNibbles_any base v ds x cap ss w hd h4 hbase hbs hn1 hn2
  clear hd hs hbs
  go_enter Try.func7, Try.ntmps7
  go_wp2_with fail
  refine HC.out.mono ?_
  rintro e w' ⟨v', rfl, h1, h2⟩
  go_wp2
  go_ret
  exact ⟨_, rfl, h1, h2⟩
end Go.Proofs.Qxb6618067a
