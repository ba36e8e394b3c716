/-
  No cell of these rows narrows 'for every input' (looked for: loops, veiled, ifaces, maps, wideKeys, modest, calm, conditions, laid).
  DERIVED. THE GIVEN ROWS OF THIS SEAT. 3 by the template 'for every input the law returns true; each argument reads behind the call as it read before'; 0 by the template 'total and deterministic' (their statements: Qxb6605223aTotals.lean).
  GIVEN WITH THE SEED: the statements are not yours to turn. If you find one false, say at which input.
  Laid BY PROGRAM, IN A SANDBOX (cutbox-rows.mjs): the forced cells as the released guide's own fill.sh prints them over the translation 73ea45eaf1a8b73e… (all of the seat's roots in one cut). By AI agents, Wed Nov 11 2026. No macro, syntax, notation, axiom, sorry.
-/
import Derived.Test.Qxb6605223aChecked
import GoSem.Claim
import GoSem.ClaimJoined
import GoSem.ClaimMapViews
import Derived.JoinedTies
import Derived.KernelRfl
namespace Go.Proofs.Qxb6605223a
/- THE CELL 'sum', in the pinned program and in every row, IS THE sha256 OF THE DUMP (.gsa) THAT Qxb6605223aProg.lean LOADS. Nothing in Lean hashes anything: it is a label: what it is worth is what the hold of that sum in a sandbox is worth. -/
noncomputable def Try.pinned : Pinned := { name := "qxb6605223a", sum := "73ea45eaf1a8b73e7431836a2ca49c8dc3608499e3aa91792f7c8f1744104f56", checked := Try.checked }
namespace Rows
def none {H : Type} : Left H := { results := [], args := [] }

/-- 'zzlaws_check_b1.FnResetExact': WHATEVER THE INPUT: true; the input reads as it did. -/
def fnResetExactSpec : ChangeSpec := { name := "fnResetExact", fn := fun _ => fun
  | [d1, d2, d3, d4, d5, d6, d7] => { results := [.lit (.bool true)], args := [d1, d2, d3, d4, d5, d6, d7] }
  | _ => none }
def fnResetExactRow : OpenClaim := { program := "qxb6605223a", sum := "73ea45eaf1a8b73e7431836a2ca49c8dc3608499e3aa91792f7c8f1744104f56", func := "example.com/causeway/causeway/zzlaws_check_b1.FnResetExact", spec := "fnResetExact", recurses := true, apart := false }
def FnResetExactSaid : Prop := fnResetExactRow.holds Try.pinned (OpenSpec.ofChange fnResetExactSpec)

/-- ITS FALSE NEIGHBOUR: 'it returns false'. Refute it at one input. -/
def fnResetExactWrong : ChangeSpec := { name := "fnResetExact", fn := fun _ => fun
  | [d1, d2, d3, d4, d5, d6, d7] => { results := [.lit (.bool false)], args := [d1, d2, d3, d4, d5, d6, d7] }
  | _ => none }
def FnResetExactWrongFalsely : Prop := fnResetExactRow.holds Try.pinned (OpenSpec.ofChange fnResetExactWrong)

/-- 'zzlaws_check_b1.FnResetAfterUseIsFresh': WHATEVER THE INPUT: true; the input reads as it did. -/
def fnResetAfterUseIsFreshSpec : ChangeSpec := { name := "fnResetAfterUseIsFresh", fn := fun _ => fun
  | [d1, d2, d3, d4, d5, d6, d7, d8] => { results := [.lit (.bool true)], args := [d1, d2, d3, d4, d5, d6, d7, d8] }
  | _ => none }
def fnResetAfterUseIsFreshRow : OpenClaim := { program := "qxb6605223a", sum := "73ea45eaf1a8b73e7431836a2ca49c8dc3608499e3aa91792f7c8f1744104f56", func := "example.com/causeway/causeway/zzlaws_check_b1.FnResetAfterUseIsFresh", spec := "fnResetAfterUseIsFresh", recurses := true, apart := false }
def FnResetAfterUseIsFreshSaid : Prop := fnResetAfterUseIsFreshRow.holds Try.pinned (OpenSpec.ofChange fnResetAfterUseIsFreshSpec)

/-- ITS FALSE NEIGHBOUR: 'it returns false'. Refute it at one input. -/
def fnResetAfterUseIsFreshWrong : ChangeSpec := { name := "fnResetAfterUseIsFresh", fn := fun _ => fun
  | [d1, d2, d3, d4, d5, d6, d7, d8] => { results := [.lit (.bool false)], args := [d1, d2, d3, d4, d5, d6, d7, d8] }
  | _ => none }
def FnResetAfterUseIsFreshWrongFalsely : Prop := fnResetAfterUseIsFreshRow.holds Try.pinned (OpenSpec.ofChange fnResetAfterUseIsFreshWrong)

/-- 'zzlaws_check_b1.FnIndexRank': WHATEVER THE INPUT: true; the input reads as it did. -/
def fnIndexRankSpec : ChangeSpec := { name := "fnIndexRank", fn := fun _ => fun
  | [d1, d2, d3, d4, d5, d6, d7] => { results := [.lit (.bool true)], args := [d1, d2, d3, d4, d5, d6, d7] }
  | _ => none }
def fnIndexRankRow : OpenClaim := { program := "qxb6605223a", sum := "73ea45eaf1a8b73e7431836a2ca49c8dc3608499e3aa91792f7c8f1744104f56", func := "example.com/causeway/causeway/zzlaws_check_b1.FnIndexRank", spec := "fnIndexRank", recurses := true, apart := false }
def FnIndexRankSaid : Prop := fnIndexRankRow.holds Try.pinned (OpenSpec.ofChange fnIndexRankSpec)

/-- ITS FALSE NEIGHBOUR: 'it returns false'. Refute it at one input. -/
def fnIndexRankWrong : ChangeSpec := { name := "fnIndexRank", fn := fun _ => fun
  | [d1, d2, d3, d4, d5, d6, d7] => { results := [.lit (.bool false)], args := [d1, d2, d3, d4, d5, d6, d7] }
  | _ => none }
def FnIndexRankWrongFalsely : Prop := fnIndexRankRow.holds Try.pinned (OpenSpec.ofChange fnIndexRankWrong)

end Rows
end Go.Proofs.Qxb6605223a
