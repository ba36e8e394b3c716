/-
  No cell of these rows narrows 'for every input' (looked for: loops, veiled, ifaces, maps, wideKeys, modest, calm, conditions, laid).
  DERIVED. THE GIVEN ROWS OF THIS SEAT. 6 by the template 'for every input the law returns true; each argument reads behind the call as it read before'; 0 by the template 'total and deterministic' (their statements: Qxb6605207aTotals.lean).
  GIVEN WITH THE SEED: the statements are not yours to turn. If you find one false, say at which input.
  Laid BY PROGRAM, IN A SANDBOX (cutbox-rows.mjs): the forced cells as the released guide's own fill.sh prints them over the translation 33d0c0c53de11cfa… (all of the seat's roots in one cut). By AI agents, Wed Nov 11 2026. No macro, syntax, notation, axiom, sorry.
-/
import Derived.Test.Qxb6605207aChecked
import GoSem.Claim
import GoSem.ClaimJoined
import GoSem.ClaimMapViews
import Derived.JoinedTies
import Derived.KernelRfl
namespace Go.Proofs.Qxb6605207a
/- THE CELL 'sum', in the pinned program and in every row, IS THE sha256 OF THE DUMP (.gsa) THAT Qxb6605207aProg.lean LOADS. Nothing in Lean hashes anything: it is a label: what it is worth is what the hold of that sum in a sandbox is worth. -/
noncomputable def Try.pinned : Pinned := { name := "qxb6605207a", sum := "33d0c0c53de11cfadeb08f837a93646e34b5ce7eca37985fd1f3a727337c6840", checked := Try.checked }
namespace Rows
def none {H : Type} : Left H := { results := [], args := [] }

/-- 'zzlaws_strictjson_b1.FnValidNumberMatchesAutomaton': WHATEVER THE INPUT: true; the input reads as it did. -/
def fnValidNumberMatchesAutomatonSpec : ChangeSpec := { name := "fnValidNumberMatchesAutomaton", fn := fun _ => fun
  | [d1, d2] => { results := [.lit (.bool true)], args := [d1, d2] }
  | _ => none }
def fnValidNumberMatchesAutomatonRow : OpenClaim := { program := "qxb6605207a", sum := "33d0c0c53de11cfadeb08f837a93646e34b5ce7eca37985fd1f3a727337c6840", func := "example.com/vestledger/vestledger/zzlaws_strictjson_b1.FnValidNumberMatchesAutomaton", spec := "fnValidNumberMatchesAutomaton", unfollowed := true, recurses := true, apart := false }
def FnValidNumberMatchesAutomatonSaid : Prop := fnValidNumberMatchesAutomatonRow.holds Try.pinned (OpenSpec.ofChange fnValidNumberMatchesAutomatonSpec)

/-- ITS FALSE NEIGHBOUR: 'it returns false'. Refute it at one input. -/
def fnValidNumberMatchesAutomatonWrong : ChangeSpec := { name := "fnValidNumberMatchesAutomaton", fn := fun _ => fun
  | [d1, d2] => { results := [.lit (.bool false)], args := [d1, d2] }
  | _ => none }
def FnValidNumberMatchesAutomatonWrongFalsely : Prop := fnValidNumberMatchesAutomatonRow.holds Try.pinned (OpenSpec.ofChange fnValidNumberMatchesAutomatonWrong)

/-- 'zzlaws_strictjson_b1.FnValidNumberReadsWrittenNumber': WHATEVER THE INPUT: true; the input reads as it did. -/
def fnValidNumberReadsWrittenNumberSpec : ChangeSpec := { name := "fnValidNumberReadsWrittenNumber", fn := fun _ => fun
  | [d1, d2, d3, d4, d5, d6] => { results := [.lit (.bool true)], args := [d1, d2, d3, d4, d5, d6] }
  | _ => none }
def fnValidNumberReadsWrittenNumberRow : OpenClaim := { program := "qxb6605207a", sum := "33d0c0c53de11cfadeb08f837a93646e34b5ce7eca37985fd1f3a727337c6840", func := "example.com/vestledger/vestledger/zzlaws_strictjson_b1.FnValidNumberReadsWrittenNumber", spec := "fnValidNumberReadsWrittenNumber", unfollowed := true, recurses := true, apart := false }
def FnValidNumberReadsWrittenNumberSaid : Prop := fnValidNumberReadsWrittenNumberRow.holds Try.pinned (OpenSpec.ofChange fnValidNumberReadsWrittenNumberSpec)

/-- ITS FALSE NEIGHBOUR: 'it returns false'. Refute it at one input. -/
def fnValidNumberReadsWrittenNumberWrong : ChangeSpec := { name := "fnValidNumberReadsWrittenNumber", fn := fun _ => fun
  | [d1, d2, d3, d4, d5, d6] => { results := [.lit (.bool false)], args := [d1, d2, d3, d4, d5, d6] }
  | _ => none }
def FnValidNumberReadsWrittenNumberWrongFalsely : Prop := fnValidNumberReadsWrittenNumberRow.holds Try.pinned (OpenSpec.ofChange fnValidNumberReadsWrittenNumberWrong)

/-- 'zzlaws_strictjson_b1.FnValidStringMatchesAutomaton': WHATEVER THE INPUT: true; the input reads as it did. -/
def fnValidStringMatchesAutomatonSpec : ChangeSpec := { name := "fnValidStringMatchesAutomaton", fn := fun _ => fun
  | [d1, d2] => { results := [.lit (.bool true)], args := [d1, d2] }
  | _ => none }
def fnValidStringMatchesAutomatonRow : OpenClaim := { program := "qxb6605207a", sum := "33d0c0c53de11cfadeb08f837a93646e34b5ce7eca37985fd1f3a727337c6840", func := "example.com/vestledger/vestledger/zzlaws_strictjson_b1.FnValidStringMatchesAutomaton", spec := "fnValidStringMatchesAutomaton", apart := false }
def FnValidStringMatchesAutomatonSaid : Prop := fnValidStringMatchesAutomatonRow.holds Try.pinned (OpenSpec.ofChange fnValidStringMatchesAutomatonSpec)

/-- ITS FALSE NEIGHBOUR: 'it returns false'. Refute it at one input. -/
def fnValidStringMatchesAutomatonWrong : ChangeSpec := { name := "fnValidStringMatchesAutomaton", fn := fun _ => fun
  | [d1, d2] => { results := [.lit (.bool false)], args := [d1, d2] }
  | _ => none }
def FnValidStringMatchesAutomatonWrongFalsely : Prop := fnValidStringMatchesAutomatonRow.holds Try.pinned (OpenSpec.ofChange fnValidStringMatchesAutomatonWrong)

/-- 'zzlaws_strictjson_b1.FnValidStringReadsQuotedBytes': WHATEVER THE INPUT: true; the input reads as it did. -/
def fnValidStringReadsQuotedBytesSpec : ChangeSpec := { name := "fnValidStringReadsQuotedBytes", fn := fun _ => fun
  | [d1, d2, d3, d4, d5] => { results := [.lit (.bool true)], args := [d1, d2, d3, d4, d5] }
  | _ => none }
def fnValidStringReadsQuotedBytesRow : OpenClaim := { program := "qxb6605207a", sum := "33d0c0c53de11cfadeb08f837a93646e34b5ce7eca37985fd1f3a727337c6840", func := "example.com/vestledger/vestledger/zzlaws_strictjson_b1.FnValidStringReadsQuotedBytes", spec := "fnValidStringReadsQuotedBytes", apart := false }
def FnValidStringReadsQuotedBytesSaid : Prop := fnValidStringReadsQuotedBytesRow.holds Try.pinned (OpenSpec.ofChange fnValidStringReadsQuotedBytesSpec)

/-- ITS FALSE NEIGHBOUR: 'it returns false'. Refute it at one input. -/
def fnValidStringReadsQuotedBytesWrong : ChangeSpec := { name := "fnValidStringReadsQuotedBytes", fn := fun _ => fun
  | [d1, d2, d3, d4, d5] => { results := [.lit (.bool false)], args := [d1, d2, d3, d4, d5] }
  | _ => none }
def FnValidStringReadsQuotedBytesWrongFalsely : Prop := fnValidStringReadsQuotedBytesRow.holds Try.pinned (OpenSpec.ofChange fnValidStringReadsQuotedBytesWrong)

/-- 'zzlaws_strictjson_b1.FnValidItemsMatchesPushdownModel': WHATEVER THE INPUT: true; the input reads as it did. -/
def fnValidItemsMatchesPushdownModelSpec : ChangeSpec := { name := "fnValidItemsMatchesPushdownModel", fn := fun _ => fun
  | [d1, d2, d3] => { results := [.lit (.bool true)], args := [d1, d2, d3] }
  | _ => none }
def fnValidItemsMatchesPushdownModelRow : OpenClaim := { program := "qxb6605207a", sum := "33d0c0c53de11cfadeb08f837a93646e34b5ce7eca37985fd1f3a727337c6840", func := "example.com/vestledger/vestledger/zzlaws_strictjson_b1.FnValidItemsMatchesPushdownModel", spec := "fnValidItemsMatchesPushdownModel", unfollowed := true, recurses := true, apart := false }
def FnValidItemsMatchesPushdownModelSaid : Prop := fnValidItemsMatchesPushdownModelRow.holds Try.pinned (OpenSpec.ofChange fnValidItemsMatchesPushdownModelSpec)

/-- ITS FALSE NEIGHBOUR: 'it returns false'. Refute it at one input. -/
def fnValidItemsMatchesPushdownModelWrong : ChangeSpec := { name := "fnValidItemsMatchesPushdownModel", fn := fun _ => fun
  | [d1, d2, d3] => { results := [.lit (.bool false)], args := [d1, d2, d3] }
  | _ => none }
def FnValidItemsMatchesPushdownModelWrongFalsely : Prop := fnValidItemsMatchesPushdownModelRow.holds Try.pinned (OpenSpec.ofChange fnValidItemsMatchesPushdownModelWrong)

/-- 'zzlaws_strictjson_b1.FnValidItemsNestingLimit': WHATEVER THE INPUT: true; the input reads as it did. -/
def fnValidItemsNestingLimitSpec : ChangeSpec := { name := "fnValidItemsNestingLimit", fn := fun _ => fun
  | [d1, d2, d3] => { results := [.lit (.bool true)], args := [d1, d2, d3] }
  | _ => none }
def fnValidItemsNestingLimitRow : OpenClaim := { program := "qxb6605207a", sum := "33d0c0c53de11cfadeb08f837a93646e34b5ce7eca37985fd1f3a727337c6840", func := "example.com/vestledger/vestledger/zzlaws_strictjson_b1.FnValidItemsNestingLimit", spec := "fnValidItemsNestingLimit", unfollowed := true, recurses := true, apart := false }
def FnValidItemsNestingLimitSaid : Prop := fnValidItemsNestingLimitRow.holds Try.pinned (OpenSpec.ofChange fnValidItemsNestingLimitSpec)

/-- ITS FALSE NEIGHBOUR: 'it returns false'. Refute it at one input. -/
def fnValidItemsNestingLimitWrong : ChangeSpec := { name := "fnValidItemsNestingLimit", fn := fun _ => fun
  | [d1, d2, d3] => { results := [.lit (.bool false)], args := [d1, d2, d3] }
  | _ => none }
def FnValidItemsNestingLimitWrongFalsely : Prop := fnValidItemsNestingLimitRow.holds Try.pinned (OpenSpec.ofChange fnValidItemsNestingLimitWrong)

end Rows
end Go.Proofs.Qxb6605207a
