/-
  No cell of these rows narrows 'for every input' (looked for: loops, veiled, ifaces, maps, wideKeys, modest, calm, conditions, laid).
  DERIVED. THE GIVEN ROWS OF THIS SEAT. 4 by the template 'for every input the law returns true; each argument reads behind the call as it read before'; 0 by the template 'total and deterministic' (their statements: Qxb6617981aTotals.lean).
  GIVEN WITH THE SEED: the statements are not yours to turn. If you find one false, say at which input.
  Laid BY PROGRAM, IN A SANDBOX (cutbox-rows.mjs): the forced cells as the released guide's own fill.sh prints them over the translation fc301598d479d879… (all of the seat's roots in one cut). By AI agents, Wed Nov 11 2026. No macro, syntax, notation, axiom, sorry.
-/
import Derived.Test.Qxb6617981aChecked
import GoSem.Claim
import GoSem.ClaimJoined
import GoSem.ClaimMapViews
import Derived.JoinedTies
import Derived.KernelRfl
namespace Go.Proofs.Qxb6617981a
/- THE CELL 'sum', in the pinned program and in every row, IS THE sha256 OF THE DUMP (.gsa) THAT Qxb6617981aProg.lean LOADS. Nothing in Lean hashes anything: it is a label: what it is worth is what the hold of that sum in a sandbox is worth. -/
noncomputable def Try.pinned : Pinned := { name := "qxb6617981a", sum := "fc301598d479d879ad0f978af81534782d6be27770e271328f06c7b995259780", checked := Try.checked }
namespace Rows
def none {H : Type} : Left H := { results := [], args := [] }

/-- 'zzlaws_pkg_eviction_b1.FnEvictionsIsLeastCountThatReachesTarget': WHATEVER THE INPUT: true; the input reads as it did. -/
def fnEvictionsIsLeastCountThatReachesTargetSpec : ChangeSpec := { name := "fnEvictionsIsLeastCountThatReachesTarget", fn := fun _ => fun
  | [d1, d2, d3, d4, d5] => { results := [.lit (.bool true)], args := [d1, d2, d3, d4, d5] }
  | _ => none }
def fnEvictionsIsLeastCountThatReachesTargetRow : OpenClaim := { program := "qxb6617981a", sum := "fc301598d479d879ad0f978af81534782d6be27770e271328f06c7b995259780", func := "example.com/pressurecast/pressurecast/zzlaws_pkg_eviction_b1.FnEvictionsIsLeastCountThatReachesTarget", spec := "fnEvictionsIsLeastCountThatReachesTarget", apart := false }
def FnEvictionsIsLeastCountThatReachesTargetSaid : Prop := fnEvictionsIsLeastCountThatReachesTargetRow.holds Try.pinned (OpenSpec.ofChange fnEvictionsIsLeastCountThatReachesTargetSpec)

/-- ITS FALSE NEIGHBOUR: 'it returns false'. Refute it at one input. -/
def fnEvictionsIsLeastCountThatReachesTargetWrong : ChangeSpec := { name := "fnEvictionsIsLeastCountThatReachesTarget", fn := fun _ => fun
  | [d1, d2, d3, d4, d5] => { results := [.lit (.bool false)], args := [d1, d2, d3, d4, d5] }
  | _ => none }
def FnEvictionsIsLeastCountThatReachesTargetWrongFalsely : Prop := fnEvictionsIsLeastCountThatReachesTargetRow.holds Try.pinned (OpenSpec.ofChange fnEvictionsIsLeastCountThatReachesTargetWrong)

/-- 'zzlaws_pkg_eviction_b1.FnEvictionsSplitAtAnyCut': WHATEVER THE INPUT: true; the input reads as it did. -/
def fnEvictionsSplitAtAnyCutSpec : ChangeSpec := { name := "fnEvictionsSplitAtAnyCut", fn := fun _ => fun
  | [d1, d2, d3, d4, d5] => { results := [.lit (.bool true)], args := [d1, d2, d3, d4, d5] }
  | _ => none }
def fnEvictionsSplitAtAnyCutRow : OpenClaim := { program := "qxb6617981a", sum := "fc301598d479d879ad0f978af81534782d6be27770e271328f06c7b995259780", func := "example.com/pressurecast/pressurecast/zzlaws_pkg_eviction_b1.FnEvictionsSplitAtAnyCut", spec := "fnEvictionsSplitAtAnyCut", apart := false }
def FnEvictionsSplitAtAnyCutSaid : Prop := fnEvictionsSplitAtAnyCutRow.holds Try.pinned (OpenSpec.ofChange fnEvictionsSplitAtAnyCutSpec)

/-- ITS FALSE NEIGHBOUR: 'it returns false'. Refute it at one input. -/
def fnEvictionsSplitAtAnyCutWrong : ChangeSpec := { name := "fnEvictionsSplitAtAnyCut", fn := fun _ => fun
  | [d1, d2, d3, d4, d5] => { results := [.lit (.bool false)], args := [d1, d2, d3, d4, d5] }
  | _ => none }
def FnEvictionsSplitAtAnyCutWrongFalsely : Prop := fnEvictionsSplitAtAnyCutRow.holds Try.pinned (OpenSpec.ofChange fnEvictionsSplitAtAnyCutWrong)

/-- 'zzlaws_pkg_eviction_b1.FnReclaimIsLeastCountAtEachEnd': WHATEVER THE INPUT: true; the input reads as it did. -/
def fnReclaimIsLeastCountAtEachEndSpec : ChangeSpec := { name := "fnReclaimIsLeastCountAtEachEnd", fn := fun _ => fun
  | [d1, d2, d3, d4, d5, d6] => { results := [.lit (.bool true)], args := [d1, d2, d3, d4, d5, d6] }
  | _ => none }
def fnReclaimIsLeastCountAtEachEndRow : OpenClaim := { program := "qxb6617981a", sum := "fc301598d479d879ad0f978af81534782d6be27770e271328f06c7b995259780", func := "example.com/pressurecast/pressurecast/zzlaws_pkg_eviction_b1.FnReclaimIsLeastCountAtEachEnd", spec := "fnReclaimIsLeastCountAtEachEnd", apart := false }
def FnReclaimIsLeastCountAtEachEndSaid : Prop := fnReclaimIsLeastCountAtEachEndRow.holds Try.pinned (OpenSpec.ofChange fnReclaimIsLeastCountAtEachEndSpec)

/-- ITS FALSE NEIGHBOUR: 'it returns false'. Refute it at one input. -/
def fnReclaimIsLeastCountAtEachEndWrong : ChangeSpec := { name := "fnReclaimIsLeastCountAtEachEnd", fn := fun _ => fun
  | [d1, d2, d3, d4, d5, d6] => { results := [.lit (.bool false)], args := [d1, d2, d3, d4, d5, d6] }
  | _ => none }
def FnReclaimIsLeastCountAtEachEndWrongFalsely : Prop := fnReclaimIsLeastCountAtEachEndRow.holds Try.pinned (OpenSpec.ofChange fnReclaimIsLeastCountAtEachEndWrong)

/-- 'zzlaws_pkg_eviction_b1.FnReclaimNodeUncountedMovesOnlyMost': WHATEVER THE INPUT: true; the input reads as it did. -/
def fnReclaimNodeUncountedMovesOnlyMostSpec : ChangeSpec := { name := "fnReclaimNodeUncountedMovesOnlyMost", fn := fun _ => fun
  | [d1, d2, d3, d4, d5, d6, d7] => { results := [.lit (.bool true)], args := [d1, d2, d3, d4, d5, d6, d7] }
  | _ => none }
def fnReclaimNodeUncountedMovesOnlyMostRow : OpenClaim := { program := "qxb6617981a", sum := "fc301598d479d879ad0f978af81534782d6be27770e271328f06c7b995259780", func := "example.com/pressurecast/pressurecast/zzlaws_pkg_eviction_b1.FnReclaimNodeUncountedMovesOnlyMost", spec := "fnReclaimNodeUncountedMovesOnlyMost", apart := false }
def FnReclaimNodeUncountedMovesOnlyMostSaid : Prop := fnReclaimNodeUncountedMovesOnlyMostRow.holds Try.pinned (OpenSpec.ofChange fnReclaimNodeUncountedMovesOnlyMostSpec)

/-- ITS FALSE NEIGHBOUR: 'it returns false'. Refute it at one input. -/
def fnReclaimNodeUncountedMovesOnlyMostWrong : ChangeSpec := { name := "fnReclaimNodeUncountedMovesOnlyMost", fn := fun _ => fun
  | [d1, d2, d3, d4, d5, d6, d7] => { results := [.lit (.bool false)], args := [d1, d2, d3, d4, d5, d6, d7] }
  | _ => none }
def FnReclaimNodeUncountedMovesOnlyMostWrongFalsely : Prop := fnReclaimNodeUncountedMovesOnlyMostRow.holds Try.pinned (OpenSpec.ofChange fnReclaimNodeUncountedMovesOnlyMostWrong)

end Rows
end Go.Proofs.Qxb6617981a
