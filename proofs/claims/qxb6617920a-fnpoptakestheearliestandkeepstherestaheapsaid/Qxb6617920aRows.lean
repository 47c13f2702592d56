/-
  No cell of these rows narrows 'for every input' (looked for: loops, veiled, ifaces, maps, wideKeys, modest, calm, conditions, laid).
  DERIVED. THE GIVEN ROWS OF THIS SEAT. 2 by the template 'for every input the law returns true; each argument reads behind the call as it read before'; 0 by the template 'total and deterministic' (their statements: Qxb6617920aTotals.lean).
  GIVEN WITH THE SEED: the statements are not yours to turn. If you find one false, say at which input.
  Laid BY PROGRAM, IN A SANDBOX (cutbox-rows.mjs): the forced cells as the released guide's own fill.sh prints them over the translation cc146b5ef7222746… (all of the seat's roots in one cut). By AI agents, Wed Nov 11 2026. No macro, syntax, notation, axiom, sorry.
-/
import Derived.Test.Qxb6617920aChecked
import GoSem.Claim
import GoSem.ClaimJoined
import GoSem.ClaimMapViews
import Derived.JoinedTies
import Derived.KernelRfl
namespace Go.Proofs.Qxb6617920a
/- THE CELL 'sum', in the pinned program and in every row, IS THE sha256 OF THE DUMP (.gsa) THAT Qxb6617920aProg.lean LOADS. Nothing in Lean hashes anything: it is a label: what it is worth is what the hold of that sum in a sandbox is worth. -/
noncomputable def Try.pinned : Pinned := { name := "qxb6617920a", sum := "cc146b5ef7222746768cdbe7c9d7ffbf0ecb4180977b59d979ed6fea89dd2422", checked := Try.checked }
namespace Rows
def none {H : Type} : Left H := { results := [], args := [] }

/-- 'zzlaws_internal_sim_b1.FnPopTakesTheEarliestAndKeepsTheRestAHeap': WHATEVER THE INPUT: true; the input reads as it did. -/
def fnPopTakesTheEarliestAndKeepsTheRestAHeapSpec : ChangeSpec := { name := "fnPopTakesTheEarliestAndKeepsTheRestAHeap", fn := fun _ => fun
  | [d1, d2, d3, d4] => { results := [.lit (.bool true)], args := [d1, d2, d3, d4] }
  | _ => none }
def fnPopTakesTheEarliestAndKeepsTheRestAHeapRow : OpenClaim := { program := "qxb6617920a", sum := "cc146b5ef7222746768cdbe7c9d7ffbf0ecb4180977b59d979ed6fea89dd2422", func := "example.com/coheron/coheron/zzlaws_internal_sim_b1.FnPopTakesTheEarliestAndKeepsTheRestAHeap", spec := "fnPopTakesTheEarliestAndKeepsTheRestAHeap", apart := false }
def FnPopTakesTheEarliestAndKeepsTheRestAHeapSaid : Prop := fnPopTakesTheEarliestAndKeepsTheRestAHeapRow.holds Try.pinned (OpenSpec.ofChange fnPopTakesTheEarliestAndKeepsTheRestAHeapSpec)

/-- ITS FALSE NEIGHBOUR: 'it returns false'. Refute it at one input. -/
def fnPopTakesTheEarliestAndKeepsTheRestAHeapWrong : ChangeSpec := { name := "fnPopTakesTheEarliestAndKeepsTheRestAHeap", fn := fun _ => fun
  | [d1, d2, d3, d4] => { results := [.lit (.bool false)], args := [d1, d2, d3, d4] }
  | _ => none }
def FnPopTakesTheEarliestAndKeepsTheRestAHeapWrongFalsely : Prop := fnPopTakesTheEarliestAndKeepsTheRestAHeapRow.holds Try.pinned (OpenSpec.ofChange fnPopTakesTheEarliestAndKeepsTheRestAHeapWrong)

/-- 'zzlaws_internal_sim_b1.FnPushAddsTheStampedMessageAndKeepsAHeap': WHATEVER THE INPUT: true; the input reads as it did. -/
def fnPushAddsTheStampedMessageAndKeepsAHeapSpec : ChangeSpec := { name := "fnPushAddsTheStampedMessageAndKeepsAHeap", fn := fun _ => fun
  | [d1, d2, d3, d4, d5] => { results := [.lit (.bool true)], args := [d1, d2, d3, d4, d5] }
  | _ => none }
def fnPushAddsTheStampedMessageAndKeepsAHeapRow : OpenClaim := { program := "qxb6617920a", sum := "cc146b5ef7222746768cdbe7c9d7ffbf0ecb4180977b59d979ed6fea89dd2422", func := "example.com/coheron/coheron/zzlaws_internal_sim_b1.FnPushAddsTheStampedMessageAndKeepsAHeap", spec := "fnPushAddsTheStampedMessageAndKeepsAHeap", apart := false }
def FnPushAddsTheStampedMessageAndKeepsAHeapSaid : Prop := fnPushAddsTheStampedMessageAndKeepsAHeapRow.holds Try.pinned (OpenSpec.ofChange fnPushAddsTheStampedMessageAndKeepsAHeapSpec)

/-- ITS FALSE NEIGHBOUR: 'it returns false'. Refute it at one input. -/
def fnPushAddsTheStampedMessageAndKeepsAHeapWrong : ChangeSpec := { name := "fnPushAddsTheStampedMessageAndKeepsAHeap", fn := fun _ => fun
  | [d1, d2, d3, d4, d5] => { results := [.lit (.bool false)], args := [d1, d2, d3, d4, d5] }
  | _ => none }
def FnPushAddsTheStampedMessageAndKeepsAHeapWrongFalsely : Prop := fnPushAddsTheStampedMessageAndKeepsAHeapRow.holds Try.pinned (OpenSpec.ofChange fnPushAddsTheStampedMessageAndKeepsAHeapWrong)

end Rows
end Go.Proofs.Qxb6617920a
