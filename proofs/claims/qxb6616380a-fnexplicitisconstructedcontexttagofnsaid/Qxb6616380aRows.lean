/-
  No cell of these rows narrows 'for every input' (looked for: loops, veiled, ifaces, maps, wideKeys, modest, calm, conditions, laid).
  DERIVED. THE GIVEN ROWS OF THIS SEAT. 3 by the template 'for every input the law returns true; each argument reads behind the call as it read before'; 0 by the template 'total and deterministic' (their statements: Qxb6616380aTotals.lean).
  GIVEN WITH THE SEED: the statements are not yours to turn. If you find one false, say at which input.
  Laid BY PROGRAM, IN A SANDBOX (cutbox-rows.mjs): the forced cells as the released guide's own fill.sh prints them over the translation 875ecd99ddf40a7b… (all of the seat's roots in one cut). By AI agents, Wed Nov 11 2026. No macro, syntax, notation, axiom, sorry.
-/
import Derived.Test.Qxb6616380aChecked
import GoSem.Claim
import GoSem.ClaimJoined
import GoSem.ClaimMapViews
import Derived.JoinedTies
import Derived.KernelRfl
namespace Go.Proofs.Qxb6616380a
/- THE CELL 'sum', in the pinned program and in every row, IS THE sha256 OF THE DUMP (.gsa) THAT Qxb6616380aProg.lean LOADS. Nothing in Lean hashes anything: it is a label: what it is worth is what the hold of that sum in a sandbox is worth. -/
noncomputable def Try.pinned : Pinned := { name := "qxb6616380a", sum := "875ecd99ddf40a7b61724228d6ed3bb5e170c0f9529e664ea9dba29c6c36f063", checked := Try.checked }
namespace Rows
def none {H : Type} : Left H := { results := [], args := [] }

/-- 'zzlaws_internal_der_b1.FnExplicitIsConstructedContextTagOfN': WHATEVER THE INPUT: true; the input reads as it did. -/
def fnExplicitIsConstructedContextTagOfNSpec : ChangeSpec := { name := "fnExplicitIsConstructedContextTagOfN", fn := fun _ => fun
  | [d] => { results := [.lit (.bool true)], args := [d] }
  | _ => none }
def fnExplicitIsConstructedContextTagOfNRow : OpenClaim := { program := "qxb6616380a", sum := "875ecd99ddf40a7b61724228d6ed3bb5e170c0f9529e664ea9dba29c6c36f063", func := "example.com/derwick/derwick/zzlaws_internal_der_b1.FnExplicitIsConstructedContextTagOfN", spec := "fnExplicitIsConstructedContextTagOfN", apart := false }
def FnExplicitIsConstructedContextTagOfNSaid : Prop := fnExplicitIsConstructedContextTagOfNRow.holds Try.pinned (OpenSpec.ofChange fnExplicitIsConstructedContextTagOfNSpec)

/-- ITS FALSE NEIGHBOUR: 'it returns false'. Refute it at one input. -/
def fnExplicitIsConstructedContextTagOfNWrong : ChangeSpec := { name := "fnExplicitIsConstructedContextTagOfN", fn := fun _ => fun
  | [d] => { results := [.lit (.bool false)], args := [d] }
  | _ => none }
def FnExplicitIsConstructedContextTagOfNWrongFalsely : Prop := fnExplicitIsConstructedContextTagOfNRow.holds Try.pinned (OpenSpec.ofChange fnExplicitIsConstructedContextTagOfNWrong)

/-- 'zzlaws_internal_der_b1.FnNumberWithClassAndConstructedRebuildsTag': WHATEVER THE INPUT: true; the input reads as it did. -/
def fnNumberWithClassAndConstructedRebuildsTagSpec : ChangeSpec := { name := "fnNumberWithClassAndConstructedRebuildsTag", fn := fun _ => fun
  | [d] => { results := [.lit (.bool true)], args := [d] }
  | _ => none }
def fnNumberWithClassAndConstructedRebuildsTagRow : OpenClaim := { program := "qxb6616380a", sum := "875ecd99ddf40a7b61724228d6ed3bb5e170c0f9529e664ea9dba29c6c36f063", func := "example.com/derwick/derwick/zzlaws_internal_der_b1.FnNumberWithClassAndConstructedRebuildsTag", spec := "fnNumberWithClassAndConstructedRebuildsTag", apart := false }
def FnNumberWithClassAndConstructedRebuildsTagSaid : Prop := fnNumberWithClassAndConstructedRebuildsTagRow.holds Try.pinned (OpenSpec.ofChange fnNumberWithClassAndConstructedRebuildsTagSpec)

/-- ITS FALSE NEIGHBOUR: 'it returns false'. Refute it at one input. -/
def fnNumberWithClassAndConstructedRebuildsTagWrong : ChangeSpec := { name := "fnNumberWithClassAndConstructedRebuildsTag", fn := fun _ => fun
  | [d] => { results := [.lit (.bool false)], args := [d] }
  | _ => none }
def FnNumberWithClassAndConstructedRebuildsTagWrongFalsely : Prop := fnNumberWithClassAndConstructedRebuildsTagRow.holds Try.pinned (OpenSpec.ofChange fnNumberWithClassAndConstructedRebuildsTagWrong)

/-- 'zzlaws_internal_der_b1.FnNumberReadsBackWhatNewTagPacked': WHATEVER THE INPUT: true; the input reads as it did. -/
def fnNumberReadsBackWhatNewTagPackedSpec : ChangeSpec := { name := "fnNumberReadsBackWhatNewTagPacked", fn := fun _ => fun
  | [d1, d2, d3] => { results := [.lit (.bool true)], args := [d1, d2, d3] }
  | _ => none }
def fnNumberReadsBackWhatNewTagPackedRow : OpenClaim := { program := "qxb6616380a", sum := "875ecd99ddf40a7b61724228d6ed3bb5e170c0f9529e664ea9dba29c6c36f063", func := "example.com/derwick/derwick/zzlaws_internal_der_b1.FnNumberReadsBackWhatNewTagPacked", spec := "fnNumberReadsBackWhatNewTagPacked", apart := false }
def FnNumberReadsBackWhatNewTagPackedSaid : Prop := fnNumberReadsBackWhatNewTagPackedRow.holds Try.pinned (OpenSpec.ofChange fnNumberReadsBackWhatNewTagPackedSpec)

/-- ITS FALSE NEIGHBOUR: 'it returns false'. Refute it at one input. -/
def fnNumberReadsBackWhatNewTagPackedWrong : ChangeSpec := { name := "fnNumberReadsBackWhatNewTagPacked", fn := fun _ => fun
  | [d1, d2, d3] => { results := [.lit (.bool false)], args := [d1, d2, d3] }
  | _ => none }
def FnNumberReadsBackWhatNewTagPackedWrongFalsely : Prop := fnNumberReadsBackWhatNewTagPackedRow.holds Try.pinned (OpenSpec.ofChange fnNumberReadsBackWhatNewTagPackedWrong)

end Rows
end Go.Proofs.Qxb6616380a
