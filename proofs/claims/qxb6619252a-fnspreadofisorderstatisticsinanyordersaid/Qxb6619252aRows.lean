/-
  No cell of these rows narrows 'for every input' (looked for: loops, veiled, ifaces, maps, wideKeys, modest, calm, conditions, laid).
  DERIVED. THE GIVEN ROWS OF THIS SEAT. 3 by the template 'for every input the law returns true; each argument reads behind the call as it read before'; 0 by the template 'total and deterministic' (their statements: Qxb6619252aTotals.lean).
  GIVEN WITH THE SEED: the statements are not yours to turn. If you find one false, say at which input.
  Laid BY PROGRAM, IN A SANDBOX (cutbox-rows.mjs): the forced cells as the released guide's own fill.sh prints them over the translation 7fc20119eb1e2f4a… (all of the seat's roots in one cut). By AI agents, Wed Nov 11 2026. No macro, syntax, notation, axiom, sorry.
-/
import Derived.Test.Qxb6619252aChecked
import GoSem.Claim
import GoSem.ClaimJoined
import GoSem.ClaimMapViews
import Derived.JoinedTies
import Derived.KernelRfl
namespace Go.Proofs.Qxb6619252a
/- THE CELL 'sum', in the pinned program and in every row, IS THE sha256 OF THE DUMP (.gsa) THAT Qxb6619252aProg.lean LOADS. Nothing in Lean hashes anything: it is a label: what it is worth is what the hold of that sum in a sandbox is worth. -/
noncomputable def Try.pinned : Pinned := { name := "qxb6619252a", sum := "7fc20119eb1e2f4a64a454ef835deaaac9198e6fe525ffa79a2d0c5fc2357226", checked := Try.checked }
namespace Rows
def none {H : Type} : Left H := { results := [], args := [] }

/-- 'zzlaws_internal_measure_b1.FnSpreadOfIsOrderStatisticsInAnyOrder': WHATEVER THE INPUT: true; the input reads as it did. -/
def fnSpreadOfIsOrderStatisticsInAnyOrderSpec : ChangeSpec := { name := "fnSpreadOfIsOrderStatisticsInAnyOrder", fn := fun _ => fun
  | [d1, d2] => { results := [.lit (.bool true)], args := [d1, d2] }
  | _ => none }
def fnSpreadOfIsOrderStatisticsInAnyOrderRow : OpenClaim := { program := "qxb6619252a", sum := "7fc20119eb1e2f4a64a454ef835deaaac9198e6fe525ffa79a2d0c5fc2357226", func := "example.com/any-ini/any-ini/zzlaws_internal_measure_b1.FnSpreadOfIsOrderStatisticsInAnyOrder", spec := "fnSpreadOfIsOrderStatisticsInAnyOrder", unfollowed := true, recurses := true, apart := false }
def FnSpreadOfIsOrderStatisticsInAnyOrderSaid : Prop := fnSpreadOfIsOrderStatisticsInAnyOrderRow.holds Try.pinned (OpenSpec.ofChange fnSpreadOfIsOrderStatisticsInAnyOrderSpec)

/-- ITS FALSE NEIGHBOUR: 'it returns false'. Refute it at one input. -/
def fnSpreadOfIsOrderStatisticsInAnyOrderWrong : ChangeSpec := { name := "fnSpreadOfIsOrderStatisticsInAnyOrder", fn := fun _ => fun
  | [d1, d2] => { results := [.lit (.bool false)], args := [d1, d2] }
  | _ => none }
def FnSpreadOfIsOrderStatisticsInAnyOrderWrongFalsely : Prop := fnSpreadOfIsOrderStatisticsInAnyOrderRow.holds Try.pinned (OpenSpec.ofChange fnSpreadOfIsOrderStatisticsInAnyOrderWrong)

/-- 'zzlaws_internal_measure_b1.FnSpreadOfBracketedKeepsMedian': WHATEVER THE INPUT: true; the input reads as it did. -/
def fnSpreadOfBracketedKeepsMedianSpec : ChangeSpec := { name := "fnSpreadOfBracketedKeepsMedian", fn := fun _ => fun
  | [d1, d2, d3, d4, d5] => { results := [.lit (.bool true)], args := [d1, d2, d3, d4, d5] }
  | _ => none }
def fnSpreadOfBracketedKeepsMedianRow : OpenClaim := { program := "qxb6619252a", sum := "7fc20119eb1e2f4a64a454ef835deaaac9198e6fe525ffa79a2d0c5fc2357226", func := "example.com/any-ini/any-ini/zzlaws_internal_measure_b1.FnSpreadOfBracketedKeepsMedian", spec := "fnSpreadOfBracketedKeepsMedian", unfollowed := true, recurses := true, apart := false }
def FnSpreadOfBracketedKeepsMedianSaid : Prop := fnSpreadOfBracketedKeepsMedianRow.holds Try.pinned (OpenSpec.ofChange fnSpreadOfBracketedKeepsMedianSpec)

/-- ITS FALSE NEIGHBOUR: 'it returns false'. Refute it at one input. -/
def fnSpreadOfBracketedKeepsMedianWrong : ChangeSpec := { name := "fnSpreadOfBracketedKeepsMedian", fn := fun _ => fun
  | [d1, d2, d3, d4, d5] => { results := [.lit (.bool false)], args := [d1, d2, d3, d4, d5] }
  | _ => none }
def FnSpreadOfBracketedKeepsMedianWrongFalsely : Prop := fnSpreadOfBracketedKeepsMedianRow.holds Try.pinned (OpenSpec.ofChange fnSpreadOfBracketedKeepsMedianWrong)

/-- 'zzlaws_internal_measure_b1.FnSpreadOfMirrorsUnderNegation': WHATEVER THE INPUT: true; the input reads as it did. -/
def fnSpreadOfMirrorsUnderNegationSpec : ChangeSpec := { name := "fnSpreadOfMirrorsUnderNegation", fn := fun _ => fun
  | [d] => { results := [.lit (.bool true)], args := [d] }
  | _ => none }
def fnSpreadOfMirrorsUnderNegationRow : OpenClaim := { program := "qxb6619252a", sum := "7fc20119eb1e2f4a64a454ef835deaaac9198e6fe525ffa79a2d0c5fc2357226", func := "example.com/any-ini/any-ini/zzlaws_internal_measure_b1.FnSpreadOfMirrorsUnderNegation", spec := "fnSpreadOfMirrorsUnderNegation", unfollowed := true, recurses := true, apart := false }
def FnSpreadOfMirrorsUnderNegationSaid : Prop := fnSpreadOfMirrorsUnderNegationRow.holds Try.pinned (OpenSpec.ofChange fnSpreadOfMirrorsUnderNegationSpec)

/-- ITS FALSE NEIGHBOUR: 'it returns false'. Refute it at one input. -/
def fnSpreadOfMirrorsUnderNegationWrong : ChangeSpec := { name := "fnSpreadOfMirrorsUnderNegation", fn := fun _ => fun
  | [d] => { results := [.lit (.bool false)], args := [d] }
  | _ => none }
def FnSpreadOfMirrorsUnderNegationWrongFalsely : Prop := fnSpreadOfMirrorsUnderNegationRow.holds Try.pinned (OpenSpec.ofChange fnSpreadOfMirrorsUnderNegationWrong)

end Rows
end Go.Proofs.Qxb6619252a
