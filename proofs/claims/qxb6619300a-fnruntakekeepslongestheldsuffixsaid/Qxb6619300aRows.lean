/-
  No cell of these rows narrows 'for every input' (looked for: loops, veiled, ifaces, maps, wideKeys, modest, calm, conditions, laid).
  DERIVED. THE GIVEN ROWS OF THIS SEAT. 1 by the template 'for every input the law returns true; each argument reads behind the call as it read before'; 0 by the template 'total and deterministic' (their statements: Qxb6619300aTotals.lean).
  GIVEN WITH THE SEED: the statements are not yours to turn. If you find one false, say at which input.
  Laid BY PROGRAM, IN A SANDBOX (cutbox-rows.mjs): the forced cells as the released guide's own fill.sh prints them over the translation b54324df0958f2cc… (all of the seat's roots in one cut). By AI agents, Wed Nov 11 2026. No macro, syntax, notation, axiom, sorry.
-/
import Derived.Test.Qxb6619300aChecked
import GoSem.Claim
import GoSem.ClaimJoined
import GoSem.ClaimMapViews
import Derived.JoinedTies
import Derived.KernelRfl
namespace Go.Proofs.Qxb6619300a
/- THE CELL 'sum', in the pinned program and in every row, IS THE sha256 OF THE DUMP (.gsa) THAT Qxb6619300aProg.lean LOADS. Nothing in Lean hashes anything: it is a label: what it is worth is what the hold of that sum in a sandbox is worth. -/
noncomputable def Try.pinned : Pinned := { name := "qxb6619300a", sum := "b54324df0958f2cc27bfebb2742c162ec2ff77a5fcee702eb830722c52ebb294", checked := Try.checked }
namespace Rows
def none {H : Type} : Left H := { results := [], args := [] }

/-- 'zzlaws_internal_trace_b1.FnRunTakeKeepsLongestHeldSuffix': WHATEVER THE INPUT: true; the input reads as it did. -/
def fnRunTakeKeepsLongestHeldSuffixSpec : ChangeSpec := { name := "fnRunTakeKeepsLongestHeldSuffix", fn := fun _ => fun
  | [d1, d2, d3, d4, d5, d6] => { results := [.lit (.bool true)], args := [d1, d2, d3, d4, d5, d6] }
  | _ => none }
def fnRunTakeKeepsLongestHeldSuffixRow : OpenClaim := { program := "qxb6619300a", sum := "b54324df0958f2cc27bfebb2742c162ec2ff77a5fcee702eb830722c52ebb294", func := "example.com/mootcast/mootcast/zzlaws_internal_trace_b1.FnRunTakeKeepsLongestHeldSuffix", spec := "fnRunTakeKeepsLongestHeldSuffix", apart := false }
def FnRunTakeKeepsLongestHeldSuffixSaid : Prop := fnRunTakeKeepsLongestHeldSuffixRow.holds Try.pinned (OpenSpec.ofChange fnRunTakeKeepsLongestHeldSuffixSpec)

/-- ITS FALSE NEIGHBOUR: 'it returns false'. Refute it at one input. -/
def fnRunTakeKeepsLongestHeldSuffixWrong : ChangeSpec := { name := "fnRunTakeKeepsLongestHeldSuffix", fn := fun _ => fun
  | [d1, d2, d3, d4, d5, d6] => { results := [.lit (.bool false)], args := [d1, d2, d3, d4, d5, d6] }
  | _ => none }
def FnRunTakeKeepsLongestHeldSuffixWrongFalsely : Prop := fnRunTakeKeepsLongestHeldSuffixRow.holds Try.pinned (OpenSpec.ofChange fnRunTakeKeepsLongestHeldSuffixWrong)

end Rows
end Go.Proofs.Qxb6619300a
