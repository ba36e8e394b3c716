/-
  No cell of these rows narrows 'for every input' (looked for: loops, veiled, ifaces, maps, wideKeys, modest, calm, conditions, laid).
  DERIVED. THE GIVEN ROWS OF THIS SEAT. 4 by the template 'for every input the law returns true; each argument reads behind the call as it read before'; 0 by the template 'total and deterministic' (their statements: Qxb6605294aTotals.lean).
  GIVEN WITH THE SEED: the statements are not yours to turn. If you find one false, say at which input.
  Laid BY PROGRAM, IN A SANDBOX (cutbox-rows.mjs): the forced cells as the released guide's own fill.sh prints them over the translation b776f853ad717e31… (all of the seat's roots in one cut). By AI agents, Wed Nov 11 2026. No macro, syntax, notation, axiom, sorry.
-/
import Derived.Test.Qxb6605294aChecked
import GoSem.Claim
import GoSem.ClaimJoined
import GoSem.ClaimMapViews
import Derived.JoinedTies
import Derived.KernelRfl
namespace Go.Proofs.Qxb6605294a
/- THE CELL 'sum', in the pinned program and in every row, IS THE sha256 OF THE DUMP (.gsa) THAT Qxb6605294aProg.lean LOADS. Nothing in Lean hashes anything: it is a label: what it is worth is what the hold of that sum in a sandbox is worth. -/
noncomputable def Try.pinned : Pinned := { name := "qxb6605294a", sum := "b776f853ad717e31e8e4775d065ae5d1abd7795550f7d9071cb4bef74279ae5d", checked := Try.checked }
namespace Rows
def none {H : Type} : Left H := { results := [], args := [] }

/-- 'zzlaws_pkg_register_b1.FnSettleSortsEachListAndListsEachCircleBreadthFirst': WHATEVER THE INPUT: true; the input reads as it did. -/
def fnSettleSortsEachListAndListsEachCircleBreadthFirstSpec : ChangeSpec := { name := "fnSettleSortsEachListAndListsEachCircleBreadthFirst", fn := fun _ => fun
  | [d1, d2, d3, d4, d5] => { results := [.lit (.bool true)], args := [d1, d2, d3, d4, d5] }
  | _ => none }
def fnSettleSortsEachListAndListsEachCircleBreadthFirstRow : OpenClaim := { program := "qxb6605294a", sum := "b776f853ad717e31e8e4775d065ae5d1abd7795550f7d9071cb4bef74279ae5d", func := "example.com/armslength/armslength/zzlaws_pkg_register_b1.FnSettleSortsEachListAndListsEachCircleBreadthFirst", spec := "fnSettleSortsEachListAndListsEachCircleBreadthFirst", recurses := true, plainKeys := false, apart := false }
def FnSettleSortsEachListAndListsEachCircleBreadthFirstSaid : Prop := fnSettleSortsEachListAndListsEachCircleBreadthFirstRow.holds Try.pinned (OpenSpec.ofChange fnSettleSortsEachListAndListsEachCircleBreadthFirstSpec)

/-- ITS FALSE NEIGHBOUR: 'it returns false'. Refute it at one input. -/
def fnSettleSortsEachListAndListsEachCircleBreadthFirstWrong : ChangeSpec := { name := "fnSettleSortsEachListAndListsEachCircleBreadthFirst", fn := fun _ => fun
  | [d1, d2, d3, d4, d5] => { results := [.lit (.bool false)], args := [d1, d2, d3, d4, d5] }
  | _ => none }
def FnSettleSortsEachListAndListsEachCircleBreadthFirstWrongFalsely : Prop := fnSettleSortsEachListAndListsEachCircleBreadthFirstRow.holds Try.pinned (OpenSpec.ofChange fnSettleSortsEachListAndListsEachCircleBreadthFirstWrong)

/-- 'zzlaws_pkg_register_b1.FnSettleSortsListsAndHangsNotOnTheOrderOfFacts': WHATEVER THE INPUT: true; the input reads as it did. -/
def fnSettleSortsListsAndHangsNotOnTheOrderOfFactsSpec : ChangeSpec := { name := "fnSettleSortsListsAndHangsNotOnTheOrderOfFacts", fn := fun _ => fun
  | [d1, d2, d3, d4, d5] => { results := [.lit (.bool true)], args := [d1, d2, d3, d4, d5] }
  | _ => none }
def fnSettleSortsListsAndHangsNotOnTheOrderOfFactsRow : OpenClaim := { program := "qxb6605294a", sum := "b776f853ad717e31e8e4775d065ae5d1abd7795550f7d9071cb4bef74279ae5d", func := "example.com/armslength/armslength/zzlaws_pkg_register_b1.FnSettleSortsListsAndHangsNotOnTheOrderOfFacts", spec := "fnSettleSortsListsAndHangsNotOnTheOrderOfFacts", recurses := true, plainKeys := false, apart := false }
def FnSettleSortsListsAndHangsNotOnTheOrderOfFactsSaid : Prop := fnSettleSortsListsAndHangsNotOnTheOrderOfFactsRow.holds Try.pinned (OpenSpec.ofChange fnSettleSortsListsAndHangsNotOnTheOrderOfFactsSpec)

/-- ITS FALSE NEIGHBOUR: 'it returns false'. Refute it at one input. -/
def fnSettleSortsListsAndHangsNotOnTheOrderOfFactsWrong : ChangeSpec := { name := "fnSettleSortsListsAndHangsNotOnTheOrderOfFacts", fn := fun _ => fun
  | [d1, d2, d3, d4, d5] => { results := [.lit (.bool false)], args := [d1, d2, d3, d4, d5] }
  | _ => none }
def FnSettleSortsListsAndHangsNotOnTheOrderOfFactsWrongFalsely : Prop := fnSettleSortsListsAndHangsNotOnTheOrderOfFactsRow.holds Try.pinned (OpenSpec.ofChange fnSettleSortsListsAndHangsNotOnTheOrderOfFactsWrong)

/-- 'zzlaws_pkg_register_b1.FnCloneCopiesEveryFactAndStartsFreshWork': WHATEVER THE INPUT: true; the input reads as it did. -/
def fnCloneCopiesEveryFactAndStartsFreshWorkSpec : ChangeSpec := { name := "fnCloneCopiesEveryFactAndStartsFreshWork", fn := fun _ => fun
  | [d1, d2, d3, d4, d5, d6, d7, d8, d9, d10, d11] => { results := [.lit (.bool true)], args := [d1, d2, d3, d4, d5, d6, d7, d8, d9, d10, d11] }
  | _ => none }
def fnCloneCopiesEveryFactAndStartsFreshWorkRow : OpenClaim := { program := "qxb6605294a", sum := "b776f853ad717e31e8e4775d065ae5d1abd7795550f7d9071cb4bef74279ae5d", func := "example.com/armslength/armslength/zzlaws_pkg_register_b1.FnCloneCopiesEveryFactAndStartsFreshWork", spec := "fnCloneCopiesEveryFactAndStartsFreshWork", plainKeys := false, apart := false }
def FnCloneCopiesEveryFactAndStartsFreshWorkSaid : Prop := fnCloneCopiesEveryFactAndStartsFreshWorkRow.holds Try.pinned (OpenSpec.ofChange fnCloneCopiesEveryFactAndStartsFreshWorkSpec)

/-- ITS FALSE NEIGHBOUR: 'it returns false'. Refute it at one input. -/
def fnCloneCopiesEveryFactAndStartsFreshWorkWrong : ChangeSpec := { name := "fnCloneCopiesEveryFactAndStartsFreshWork", fn := fun _ => fun
  | [d1, d2, d3, d4, d5, d6, d7, d8, d9, d10, d11] => { results := [.lit (.bool false)], args := [d1, d2, d3, d4, d5, d6, d7, d8, d9, d10, d11] }
  | _ => none }
def FnCloneCopiesEveryFactAndStartsFreshWorkWrongFalsely : Prop := fnCloneCopiesEveryFactAndStartsFreshWorkRow.holds Try.pinned (OpenSpec.ofChange fnCloneCopiesEveryFactAndStartsFreshWorkWrong)

/-- 'zzlaws_pkg_register_b1.FnCloneChangesApartFromItsOriginal': WHATEVER THE INPUT: true; the input reads as it did. -/
def fnCloneChangesApartFromItsOriginalSpec : ChangeSpec := { name := "fnCloneChangesApartFromItsOriginal", fn := fun _ => fun
  | [d1, d2, d3, d4, d5, d6, d7, d8, d9, d10, d11] => { results := [.lit (.bool true)], args := [d1, d2, d3, d4, d5, d6, d7, d8, d9, d10, d11] }
  | _ => none }
def fnCloneChangesApartFromItsOriginalRow : OpenClaim := { program := "qxb6605294a", sum := "b776f853ad717e31e8e4775d065ae5d1abd7795550f7d9071cb4bef74279ae5d", func := "example.com/armslength/armslength/zzlaws_pkg_register_b1.FnCloneChangesApartFromItsOriginal", spec := "fnCloneChangesApartFromItsOriginal", plainKeys := false, apart := false }
def FnCloneChangesApartFromItsOriginalSaid : Prop := fnCloneChangesApartFromItsOriginalRow.holds Try.pinned (OpenSpec.ofChange fnCloneChangesApartFromItsOriginalSpec)

/-- ITS FALSE NEIGHBOUR: 'it returns false'. Refute it at one input. -/
def fnCloneChangesApartFromItsOriginalWrong : ChangeSpec := { name := "fnCloneChangesApartFromItsOriginal", fn := fun _ => fun
  | [d1, d2, d3, d4, d5, d6, d7, d8, d9, d10, d11] => { results := [.lit (.bool false)], args := [d1, d2, d3, d4, d5, d6, d7, d8, d9, d10, d11] }
  | _ => none }
def FnCloneChangesApartFromItsOriginalWrongFalsely : Prop := fnCloneChangesApartFromItsOriginalRow.holds Try.pinned (OpenSpec.ofChange fnCloneChangesApartFromItsOriginalWrong)

end Rows
end Go.Proofs.Qxb6605294a
