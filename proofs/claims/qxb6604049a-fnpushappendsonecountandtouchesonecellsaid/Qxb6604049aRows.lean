/-
  No cell of these rows narrows 'for every input' (looked for: loops, veiled, ifaces, maps, wideKeys, modest, calm, conditions, laid).
  DERIVED. THE GIVEN ROWS OF THIS SEAT. 2 by the template 'for every input the law returns true; each argument reads behind the call as it read before'; 0 by the template 'total and deterministic' (their statements: Qxb6604049aTotals.lean).
  GIVEN WITH THE SEED: the statements are not yours to turn. If you find one false, say at which input.
  Laid BY PROGRAM, IN A SANDBOX (cutbox-rows.mjs): the forced cells as the released guide's own fill.sh prints them over the translation bdf1cb63fefa8464… (all of the seat's roots in one cut). By AI agents, Wed Nov 11 2026. No macro, syntax, notation, axiom, sorry.
-/
import Derived.Test.Qxb6604049aChecked
import GoSem.Claim
import GoSem.ClaimJoined
import GoSem.ClaimMapViews
import Derived.JoinedTies
import Derived.KernelRfl
namespace Go.Proofs.Qxb6604049a
/- THE CELL 'sum', in the pinned program and in every row, IS THE sha256 OF THE DUMP (.gsa) THAT Qxb6604049aProg.lean LOADS. Nothing in Lean hashes anything: it is a label: what it is worth is what the hold of that sum in a sandbox is worth. -/
noncomputable def Try.pinned : Pinned := { name := "qxb6604049a", sum := "bdf1cb63fefa8464a45db27ad1f14c0cd77ecbf44fb4f563bdf5882fb7e4fb6a", checked := Try.checked }
namespace Rows
def none {H : Type} : Left H := { results := [], args := [] }

/-- 'zzlaws_internal_schema_b1.FnPushAppendsOneCountAndTouchesOneCell': WHATEVER THE INPUT: true; the input reads as it did. -/
def fnPushAppendsOneCountAndTouchesOneCellSpec : ChangeSpec := { name := "fnPushAppendsOneCountAndTouchesOneCell", fn := fun _ => fun
  | [d1, d2, d3, d4, d5] => { results := [.lit (.bool true)], args := [d1, d2, d3, d4, d5] }
  | _ => none }
def fnPushAppendsOneCountAndTouchesOneCellRow : OpenClaim := { program := "qxb6604049a", sum := "bdf1cb63fefa8464a45db27ad1f14c0cd77ecbf44fb4f563bdf5882fb7e4fb6a", func := "example.com/remote-evals/remote-evals/zzlaws_internal_schema_b1.FnPushAppendsOneCountAndTouchesOneCell", spec := "fnPushAppendsOneCountAndTouchesOneCell", apart := false }
def FnPushAppendsOneCountAndTouchesOneCellSaid : Prop := fnPushAppendsOneCountAndTouchesOneCellRow.holds Try.pinned (OpenSpec.ofChange fnPushAppendsOneCountAndTouchesOneCellSpec)

/-- ITS FALSE NEIGHBOUR: 'it returns false'. Refute it at one input. -/
def fnPushAppendsOneCountAndTouchesOneCellWrong : ChangeSpec := { name := "fnPushAppendsOneCountAndTouchesOneCell", fn := fun _ => fun
  | [d1, d2, d3, d4, d5] => { results := [.lit (.bool false)], args := [d1, d2, d3, d4, d5] }
  | _ => none }
def FnPushAppendsOneCountAndTouchesOneCellWrongFalsely : Prop := fnPushAppendsOneCountAndTouchesOneCellRow.holds Try.pinned (OpenSpec.ofChange fnPushAppendsOneCountAndTouchesOneCellWrong)

/-- 'zzlaws_internal_schema_b1.FnPushScriptFromEmptyHoldsTheCountsInFewestEntries': WHATEVER THE INPUT: true; the input reads as it did. -/
def fnPushScriptFromEmptyHoldsTheCountsInFewestEntriesSpec : ChangeSpec := { name := "fnPushScriptFromEmptyHoldsTheCountsInFewestEntries", fn := fun _ => fun
  | [d] => { results := [.lit (.bool true)], args := [d] }
  | _ => none }
def fnPushScriptFromEmptyHoldsTheCountsInFewestEntriesRow : OpenClaim := { program := "qxb6604049a", sum := "bdf1cb63fefa8464a45db27ad1f14c0cd77ecbf44fb4f563bdf5882fb7e4fb6a", func := "example.com/remote-evals/remote-evals/zzlaws_internal_schema_b1.FnPushScriptFromEmptyHoldsTheCountsInFewestEntries", spec := "fnPushScriptFromEmptyHoldsTheCountsInFewestEntries", apart := false }
def FnPushScriptFromEmptyHoldsTheCountsInFewestEntriesSaid : Prop := fnPushScriptFromEmptyHoldsTheCountsInFewestEntriesRow.holds Try.pinned (OpenSpec.ofChange fnPushScriptFromEmptyHoldsTheCountsInFewestEntriesSpec)

/-- ITS FALSE NEIGHBOUR: 'it returns false'. Refute it at one input. -/
def fnPushScriptFromEmptyHoldsTheCountsInFewestEntriesWrong : ChangeSpec := { name := "fnPushScriptFromEmptyHoldsTheCountsInFewestEntries", fn := fun _ => fun
  | [d] => { results := [.lit (.bool false)], args := [d] }
  | _ => none }
def FnPushScriptFromEmptyHoldsTheCountsInFewestEntriesWrongFalsely : Prop := fnPushScriptFromEmptyHoldsTheCountsInFewestEntriesRow.holds Try.pinned (OpenSpec.ofChange fnPushScriptFromEmptyHoldsTheCountsInFewestEntriesWrong)

end Rows
end Go.Proofs.Qxb6604049a
