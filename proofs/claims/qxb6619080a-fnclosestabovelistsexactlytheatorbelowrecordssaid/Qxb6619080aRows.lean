/-
  No cell of these rows narrows 'for every input' (looked for: loops, veiled, ifaces, maps, wideKeys, modest, calm, conditions, laid).
  DERIVED. THE GIVEN ROWS OF THIS SEAT. 4 by the template 'for every input the law returns true; each argument reads behind the call as it read before'; 0 by the template 'total and deterministic' (their statements: Qxb6619080aTotals.lean).
  GIVEN WITH THE SEED: the statements are not yours to turn. If you find one false, say at which input.
  Laid BY PROGRAM, IN A SANDBOX (cutbox-rows.mjs): the forced cells as the released guide's own fill.sh prints them over the translation 13f060afe32c1d5a… (all of the seat's roots in one cut). By AI agents, Wed Nov 11 2026. No macro, syntax, notation, axiom, sorry.
-/
import Derived.Test.Qxb6619080aChecked
import GoSem.Claim
import GoSem.ClaimJoined
import GoSem.ClaimMapViews
import Derived.JoinedTies
import Derived.KernelRfl
namespace Go.Proofs.Qxb6619080a
/- THE CELL 'sum', in the pinned program and in every row, IS THE sha256 OF THE DUMP (.gsa) THAT Qxb6619080aProg.lean LOADS. Nothing in Lean hashes anything: it is a label: what it is worth is what the hold of that sum in a sandbox is worth. -/
noncomputable def Try.pinned : Pinned := { name := "qxb6619080a", sum := "13f060afe32c1d5a39fd8a3bcc860426900c7ed5756c03bd2d1d140623cfa6be", checked := Try.checked }
namespace Rows
def none {H : Type} : Left H := { results := [], args := [] }

/-- 'zzlaws_plan_b1.FnClosestBelowListsExactlyTheRecordLows': WHATEVER THE INPUT: true; the input reads as it did. -/
def fnClosestBelowListsExactlyTheRecordLowsSpec : ChangeSpec := { name := "fnClosestBelowListsExactlyTheRecordLows", fn := fun _ => fun
  | [d1, d2, d3] => { results := [.lit (.bool true)], args := [d1, d2, d3] }
  | _ => none }
def fnClosestBelowListsExactlyTheRecordLowsRow : OpenClaim := { program := "qxb6619080a", sum := "13f060afe32c1d5a39fd8a3bcc860426900c7ed5756c03bd2d1d140623cfa6be", func := "example.com/vestline/vestline/zzlaws_plan_b1.FnClosestBelowListsExactlyTheRecordLows", spec := "fnClosestBelowListsExactlyTheRecordLows", apart := false }
def FnClosestBelowListsExactlyTheRecordLowsSaid : Prop := fnClosestBelowListsExactlyTheRecordLowsRow.holds Try.pinned (OpenSpec.ofChange fnClosestBelowListsExactlyTheRecordLowsSpec)

/-- ITS FALSE NEIGHBOUR: 'it returns false'. Refute it at one input. -/
def fnClosestBelowListsExactlyTheRecordLowsWrong : ChangeSpec := { name := "fnClosestBelowListsExactlyTheRecordLows", fn := fun _ => fun
  | [d1, d2, d3] => { results := [.lit (.bool false)], args := [d1, d2, d3] }
  | _ => none }
def FnClosestBelowListsExactlyTheRecordLowsWrongFalsely : Prop := fnClosestBelowListsExactlyTheRecordLowsRow.holds Try.pinned (OpenSpec.ofChange fnClosestBelowListsExactlyTheRecordLowsWrong)

/-- 'zzlaws_plan_b1.FnClosestBelowLimitPastDenominatorChangesNothing': WHATEVER THE INPUT: true; the input reads as it did. -/
def fnClosestBelowLimitPastDenominatorChangesNothingSpec : ChangeSpec := { name := "fnClosestBelowLimitPastDenominatorChangesNothing", fn := fun _ => fun
  | [d1, d2, d3, d4] => { results := [.lit (.bool true)], args := [d1, d2, d3, d4] }
  | _ => none }
def fnClosestBelowLimitPastDenominatorChangesNothingRow : OpenClaim := { program := "qxb6619080a", sum := "13f060afe32c1d5a39fd8a3bcc860426900c7ed5756c03bd2d1d140623cfa6be", func := "example.com/vestline/vestline/zzlaws_plan_b1.FnClosestBelowLimitPastDenominatorChangesNothing", spec := "fnClosestBelowLimitPastDenominatorChangesNothing", apart := false }
def FnClosestBelowLimitPastDenominatorChangesNothingSaid : Prop := fnClosestBelowLimitPastDenominatorChangesNothingRow.holds Try.pinned (OpenSpec.ofChange fnClosestBelowLimitPastDenominatorChangesNothingSpec)

/-- ITS FALSE NEIGHBOUR: 'it returns false'. Refute it at one input. -/
def fnClosestBelowLimitPastDenominatorChangesNothingWrong : ChangeSpec := { name := "fnClosestBelowLimitPastDenominatorChangesNothing", fn := fun _ => fun
  | [d1, d2, d3, d4] => { results := [.lit (.bool false)], args := [d1, d2, d3, d4] }
  | _ => none }
def FnClosestBelowLimitPastDenominatorChangesNothingWrongFalsely : Prop := fnClosestBelowLimitPastDenominatorChangesNothingRow.holds Try.pinned (OpenSpec.ofChange fnClosestBelowLimitPastDenominatorChangesNothingWrong)

/-- 'zzlaws_plan_b1.FnClosestAboveListsExactlyTheAtOrBelowRecords': WHATEVER THE INPUT: true; the input reads as it did. -/
def fnClosestAboveListsExactlyTheAtOrBelowRecordsSpec : ChangeSpec := { name := "fnClosestAboveListsExactlyTheAtOrBelowRecords", fn := fun _ => fun
  | [d1, d2, d3] => { results := [.lit (.bool true)], args := [d1, d2, d3] }
  | _ => none }
def fnClosestAboveListsExactlyTheAtOrBelowRecordsRow : OpenClaim := { program := "qxb6619080a", sum := "13f060afe32c1d5a39fd8a3bcc860426900c7ed5756c03bd2d1d140623cfa6be", func := "example.com/vestline/vestline/zzlaws_plan_b1.FnClosestAboveListsExactlyTheAtOrBelowRecords", spec := "fnClosestAboveListsExactlyTheAtOrBelowRecords", apart := false }
def FnClosestAboveListsExactlyTheAtOrBelowRecordsSaid : Prop := fnClosestAboveListsExactlyTheAtOrBelowRecordsRow.holds Try.pinned (OpenSpec.ofChange fnClosestAboveListsExactlyTheAtOrBelowRecordsSpec)

/-- ITS FALSE NEIGHBOUR: 'it returns false'. Refute it at one input. -/
def fnClosestAboveListsExactlyTheAtOrBelowRecordsWrong : ChangeSpec := { name := "fnClosestAboveListsExactlyTheAtOrBelowRecords", fn := fun _ => fun
  | [d1, d2, d3] => { results := [.lit (.bool false)], args := [d1, d2, d3] }
  | _ => none }
def FnClosestAboveListsExactlyTheAtOrBelowRecordsWrongFalsely : Prop := fnClosestAboveListsExactlyTheAtOrBelowRecordsRow.holds Try.pinned (OpenSpec.ofChange fnClosestAboveListsExactlyTheAtOrBelowRecordsWrong)

/-- 'zzlaws_plan_b1.FnClosestAboveLimitOnlyCuts': WHATEVER THE INPUT: true; the input reads as it did. -/
def fnClosestAboveLimitOnlyCutsSpec : ChangeSpec := { name := "fnClosestAboveLimitOnlyCuts", fn := fun _ => fun
  | [d1, d2, d3, d4] => { results := [.lit (.bool true)], args := [d1, d2, d3, d4] }
  | _ => none }
def fnClosestAboveLimitOnlyCutsRow : OpenClaim := { program := "qxb6619080a", sum := "13f060afe32c1d5a39fd8a3bcc860426900c7ed5756c03bd2d1d140623cfa6be", func := "example.com/vestline/vestline/zzlaws_plan_b1.FnClosestAboveLimitOnlyCuts", spec := "fnClosestAboveLimitOnlyCuts", apart := false }
def FnClosestAboveLimitOnlyCutsSaid : Prop := fnClosestAboveLimitOnlyCutsRow.holds Try.pinned (OpenSpec.ofChange fnClosestAboveLimitOnlyCutsSpec)

/-- ITS FALSE NEIGHBOUR: 'it returns false'. Refute it at one input. -/
def fnClosestAboveLimitOnlyCutsWrong : ChangeSpec := { name := "fnClosestAboveLimitOnlyCuts", fn := fun _ => fun
  | [d1, d2, d3, d4] => { results := [.lit (.bool false)], args := [d1, d2, d3, d4] }
  | _ => none }
def FnClosestAboveLimitOnlyCutsWrongFalsely : Prop := fnClosestAboveLimitOnlyCutsRow.holds Try.pinned (OpenSpec.ofChange fnClosestAboveLimitOnlyCutsWrong)

end Rows
end Go.Proofs.Qxb6619080a
