/-
  No cell of these rows narrows 'for every input' (looked for: loops, veiled, ifaces, maps, wideKeys, modest, calm, conditions, laid).
  DERIVED. THE GIVEN ROWS OF THIS SEAT. 2 by the template 'for every input the law returns true; each argument reads behind the call as it read before'; 0 by the template 'total and deterministic' (their statements: Qxb6618067aTotals.lean).
  GIVEN WITH THE SEED: the statements are not yours to turn. If you find one false, say at which input.
  Laid BY PROGRAM, IN A SANDBOX (cutbox-rows.mjs): the forced cells as the released guide's own fill.sh prints them over the translation 6f625423a090c2d4… (all of the seat's roots in one cut). By AI agents, Wed Nov 11 2026. No macro, syntax, notation, axiom, sorry.
-/
import Derived.Test.Qxb6618067aChecked
import GoSem.Claim
import GoSem.ClaimJoined
import GoSem.ClaimMapViews
import Derived.JoinedTies
import Derived.KernelRfl
namespace Go.Proofs.Qxb6618067a
/- THE CELL 'sum', in the pinned program and in every row, IS THE sha256 OF THE DUMP (.gsa) THAT Qxb6618067aProg.lean LOADS. Nothing in Lean hashes anything: it is a label: what it is worth is what the hold of that sum in a sandbox is worth. -/
noncomputable def Try.pinned : Pinned := { name := "qxb6618067a", sum := "6f625423a090c2d41a5f85f7c8735cb8e61e9a910ad32342635116dd1be748dc", checked := Try.checked }
namespace Rows
def none {H : Type} : Left H := { results := [], args := [] }

/-- 'zzlaws_hexprefix_b1.FnAppendNibblesCutAndRepack': WHATEVER THE INPUT: true; the input reads as it did. -/
def fnAppendNibblesCutAndRepackSpec : ChangeSpec := { name := "fnAppendNibblesCutAndRepack", fn := fun _ => fun
  | [d1, d2, d3] => { results := [.lit (.bool true)], args := [d1, d2, d3] }
  | _ => none }
def fnAppendNibblesCutAndRepackRow : OpenClaim := { program := "qxb6618067a", sum := "6f625423a090c2d41a5f85f7c8735cb8e61e9a910ad32342635116dd1be748dc", func := "example.com/prefixfold/prefixfold/zzlaws_hexprefix_b1.FnAppendNibblesCutAndRepack", spec := "fnAppendNibblesCutAndRepack", apart := false }
def FnAppendNibblesCutAndRepackSaid : Prop := fnAppendNibblesCutAndRepackRow.holds Try.pinned (OpenSpec.ofChange fnAppendNibblesCutAndRepackSpec)

/-- ITS FALSE NEIGHBOUR: 'it returns false'. Refute it at one input. -/
def fnAppendNibblesCutAndRepackWrong : ChangeSpec := { name := "fnAppendNibblesCutAndRepack", fn := fun _ => fun
  | [d1, d2, d3] => { results := [.lit (.bool false)], args := [d1, d2, d3] }
  | _ => none }
def FnAppendNibblesCutAndRepackWrongFalsely : Prop := fnAppendNibblesCutAndRepackRow.holds Try.pinned (OpenSpec.ofChange fnAppendNibblesCutAndRepackWrong)

/-- 'zzlaws_hexprefix_b1.FnAppendNibblesKeepsByteOrder': WHATEVER THE INPUT: true; the input reads as it did. -/
def fnAppendNibblesKeepsByteOrderSpec : ChangeSpec := { name := "fnAppendNibblesKeepsByteOrder", fn := fun _ => fun
  | [d1, d2, d3] => { results := [.lit (.bool true)], args := [d1, d2, d3] }
  | _ => none }
def fnAppendNibblesKeepsByteOrderRow : OpenClaim := { program := "qxb6618067a", sum := "6f625423a090c2d41a5f85f7c8735cb8e61e9a910ad32342635116dd1be748dc", func := "example.com/prefixfold/prefixfold/zzlaws_hexprefix_b1.FnAppendNibblesKeepsByteOrder", spec := "fnAppendNibblesKeepsByteOrder", apart := false }
def FnAppendNibblesKeepsByteOrderSaid : Prop := fnAppendNibblesKeepsByteOrderRow.holds Try.pinned (OpenSpec.ofChange fnAppendNibblesKeepsByteOrderSpec)

/-- ITS FALSE NEIGHBOUR: 'it returns false'. Refute it at one input. -/
def fnAppendNibblesKeepsByteOrderWrong : ChangeSpec := { name := "fnAppendNibblesKeepsByteOrder", fn := fun _ => fun
  | [d1, d2, d3] => { results := [.lit (.bool false)], args := [d1, d2, d3] }
  | _ => none }
def FnAppendNibblesKeepsByteOrderWrongFalsely : Prop := fnAppendNibblesKeepsByteOrderRow.holds Try.pinned (OpenSpec.ofChange fnAppendNibblesKeepsByteOrderWrong)

end Rows
end Go.Proofs.Qxb6618067a
