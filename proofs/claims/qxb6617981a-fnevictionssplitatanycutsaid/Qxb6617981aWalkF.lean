/- Seat b6617981a: the bounds laid by program; leastReaching. -/
import Derived.Test.Qxb6617981aWalkE
import Derived.Test.Qxb6617981aPlainB
import Derived.Deep.QuietTactic
import Derived.BigQuiet
namespace Go.Proofs.Qxb6617981a
open Go.RowKit
set_option linter.unusedSimpArgs false
set_option linter.unusedVariables false

set_option maxHeartbeats 800000 in
theorem zzBytes17_any (c i u1 u2 th tg : Int) (a : Option Addr) (n cap : Nat) (w : World) (h1 : n ≤ 9223372036854775807) :
    Calls Try.prog 17 #[.int .i64 c, .int .i64 i, .int .i64 u1, .int .i64 u2, .int .i64 th, .int .i64 tg, .slice a n cap] w fun e w' => ∃ t, e = .returned (.bool t) ∧ w' = w := by
  by_cases k1 : 1048576 < n
  · go_enter Try.func17, Try.ntmps17
    go_wp2
    go_ret
    exact ⟨_, rfl, rfl⟩
  · go_enter Try.func17, Try.ntmps17
    go_wp2
    go_ret
    exact ⟨_, rfl, rfl⟩
set_option maxHeartbeats 800000 in
theorem zzBytes14_any (c i u1 th tg : Int) (a : Option Addr) (n cap : Nat) (w : World) (h1 : n ≤ 9223372036854775807) :
    Calls Try.prog 14 #[.int .i64 c, .int .i64 i, .int .i64 u1, .int .i64 th, .int .i64 tg, .slice a n cap] w fun e w' => ∃ t, e = .returned (.bool t) ∧ w' = w := by
  by_cases k1 : 1048576 < n
  · go_enter Try.func14, Try.ntmps14
    go_wp2
    go_ret
    exact ⟨_, rfl, rfl⟩
  · go_enter Try.func14, Try.ntmps14
    go_wp2
    go_ret
    exact ⟨_, rfl, rfl⟩
set_option maxHeartbeats 800000 in
theorem zzBytes13_any (av tg : Int) (a : Option Addr) (n cap : Nat) (cut : Int) (u : Bool) (w : World) (h1 : n ≤ 9223372036854775807) :
    Calls Try.prog 13 #[.int .i64 av, .int .i64 tg, .slice a n cap, .int .i64 cut, .bool u] w fun e w' => ∃ t, e = .returned (.bool t) ∧ w' = w := by
  by_cases k1 : 1048576 < n
  · go_enter Try.func13, Try.ntmps13
    go_wp2
    go_ret
    exact ⟨_, rfl, rfl⟩
  · go_enter Try.func13, Try.ntmps13
    go_wp2
    go_ret
    exact ⟨_, rfl, rfl⟩
set_option maxHeartbeats 800000 in
theorem zzBytes7_any (av : Int) (pr : Bool) (tg : Int) (a : Option Addr) (n cap : Nat) (u : Bool) (w : World) (h1 : n ≤ 9223372036854775807) :
    Calls Try.prog 7 #[.int .i64 av, .bool pr, .int .i64 tg, .slice a n cap, .bool u] w fun e w' => ∃ t, e = .returned (.bool t) ∧ w' = w := by
  by_cases k1 : 1048576 < n
  · go_enter Try.func7, Try.ntmps7
    go_wp2
    go_ret
    exact ⟨_, rfl, rfl⟩
  · go_enter Try.func7, Try.ntmps7
    go_wp2
    go_ret
    exact ⟨_, rfl, rfl⟩
end Go.Proofs.Qxb6617981a
