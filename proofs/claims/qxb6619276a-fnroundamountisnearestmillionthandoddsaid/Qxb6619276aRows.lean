/-
  No cell of these rows narrows 'for every input' (looked for: loops, veiled, ifaces, maps, wideKeys, modest, calm, conditions, laid).
  DERIVED. THE GIVEN ROWS OF THIS SEAT. 4 by the template 'for every input the law returns true; each argument reads behind the call as it read before'; 0 by the template 'total and deterministic' (their statements: Qxb6619276aTotals.lean).
  GIVEN WITH THE SEED: the statements are not yours to turn. If you find one false, say at which input.
  Laid BY PROGRAM, IN A SANDBOX (cutbox-rows.mjs): the forced cells as the released guide's own fill.sh prints them over the translation 44381207e229ccb5… (all of the seat's roots in one cut). By AI agents, Wed Nov 11 2026. No macro, syntax, notation, axiom, sorry.
-/
import Derived.Test.Qxb6619276aChecked
import GoSem.Claim
import GoSem.ClaimJoined
import GoSem.ClaimMapViews
import Derived.JoinedTies
import Derived.KernelRfl
namespace Go.Proofs.Qxb6619276a
/- THE CELL 'sum', in the pinned program and in every row, IS THE sha256 OF THE DUMP (.gsa) THAT Qxb6619276aProg.lean LOADS. Nothing in Lean hashes anything: it is a label: what it is worth is what the hold of that sum in a sandbox is worth. -/
noncomputable def Try.pinned : Pinned := { name := "qxb6619276a", sum := "44381207e229ccb5112e9b93cf43c51f39aadc0f6a138e0421a9d197c0b7c19c", checked := Try.checked }
namespace Rows
def none {H : Type} : Left H := { results := [], args := [] }

/-- 'zzlaws_root_b1.FnRoundAmountIsNearestMillionthAndOdd': WHATEVER THE INPUT: true; the input reads as it did. -/
def fnRoundAmountIsNearestMillionthAndOddSpec : ChangeSpec := { name := "fnRoundAmountIsNearestMillionthAndOdd", fn := fun _ => fun
  | [d] => { results := [.lit (.bool true)], args := [d] }
  | _ => none }
def fnRoundAmountIsNearestMillionthAndOddRow : OpenClaim := { program := "qxb6619276a", sum := "44381207e229ccb5112e9b93cf43c51f39aadc0f6a138e0421a9d197c0b7c19c", func := "example.com/trikl/trikl/zzlaws_root_b1.FnRoundAmountIsNearestMillionthAndOdd", spec := "fnRoundAmountIsNearestMillionthAndOdd", inPlace := ["math.Float64bits", "math.Float64frombits", "math/bits.Add64"], apart := false }
def FnRoundAmountIsNearestMillionthAndOddSaid : Prop := fnRoundAmountIsNearestMillionthAndOddRow.holds Try.pinned (OpenSpec.ofChange fnRoundAmountIsNearestMillionthAndOddSpec)

/-- ITS FALSE NEIGHBOUR: 'it returns false'. Refute it at one input. -/
def fnRoundAmountIsNearestMillionthAndOddWrong : ChangeSpec := { name := "fnRoundAmountIsNearestMillionthAndOdd", fn := fun _ => fun
  | [d] => { results := [.lit (.bool false)], args := [d] }
  | _ => none }
def FnRoundAmountIsNearestMillionthAndOddWrongFalsely : Prop := fnRoundAmountIsNearestMillionthAndOddRow.holds Try.pinned (OpenSpec.ofChange fnRoundAmountIsNearestMillionthAndOddWrong)

/-- 'zzlaws_root_b1.FnRoundAmountKeepsWholeMillionths': WHATEVER THE INPUT: true; the input reads as it did. -/
def fnRoundAmountKeepsWholeMillionthsSpec : ChangeSpec := { name := "fnRoundAmountKeepsWholeMillionths", fn := fun _ => fun
  | [d] => { results := [.lit (.bool true)], args := [d] }
  | _ => none }
def fnRoundAmountKeepsWholeMillionthsRow : OpenClaim := { program := "qxb6619276a", sum := "44381207e229ccb5112e9b93cf43c51f39aadc0f6a138e0421a9d197c0b7c19c", func := "example.com/trikl/trikl/zzlaws_root_b1.FnRoundAmountKeepsWholeMillionths", spec := "fnRoundAmountKeepsWholeMillionths", inPlace := ["math.Float64bits", "math.Float64frombits", "math/bits.Add64"], apart := false }
def FnRoundAmountKeepsWholeMillionthsSaid : Prop := fnRoundAmountKeepsWholeMillionthsRow.holds Try.pinned (OpenSpec.ofChange fnRoundAmountKeepsWholeMillionthsSpec)

/-- ITS FALSE NEIGHBOUR: 'it returns false'. Refute it at one input. -/
def fnRoundAmountKeepsWholeMillionthsWrong : ChangeSpec := { name := "fnRoundAmountKeepsWholeMillionths", fn := fun _ => fun
  | [d] => { results := [.lit (.bool false)], args := [d] }
  | _ => none }
def FnRoundAmountKeepsWholeMillionthsWrongFalsely : Prop := fnRoundAmountKeepsWholeMillionthsRow.holds Try.pinned (OpenSpec.ofChange fnRoundAmountKeepsWholeMillionthsWrong)

/-- 'zzlaws_root_b1.FnCostAmountIsNearestButNeverFree': WHATEVER THE INPUT: true; the input reads as it did. -/
def fnCostAmountIsNearestButNeverFreeSpec : ChangeSpec := { name := "fnCostAmountIsNearestButNeverFree", fn := fun _ => fun
  | [d] => { results := [.lit (.bool true)], args := [d] }
  | _ => none }
def fnCostAmountIsNearestButNeverFreeRow : OpenClaim := { program := "qxb6619276a", sum := "44381207e229ccb5112e9b93cf43c51f39aadc0f6a138e0421a9d197c0b7c19c", func := "example.com/trikl/trikl/zzlaws_root_b1.FnCostAmountIsNearestButNeverFree", spec := "fnCostAmountIsNearestButNeverFree", inPlace := ["math.Float64bits", "math.Float64frombits", "math/bits.Add64"], apart := false }
def FnCostAmountIsNearestButNeverFreeSaid : Prop := fnCostAmountIsNearestButNeverFreeRow.holds Try.pinned (OpenSpec.ofChange fnCostAmountIsNearestButNeverFreeSpec)

/-- ITS FALSE NEIGHBOUR: 'it returns false'. Refute it at one input. -/
def fnCostAmountIsNearestButNeverFreeWrong : ChangeSpec := { name := "fnCostAmountIsNearestButNeverFree", fn := fun _ => fun
  | [d] => { results := [.lit (.bool false)], args := [d] }
  | _ => none }
def FnCostAmountIsNearestButNeverFreeWrongFalsely : Prop := fnCostAmountIsNearestButNeverFreeRow.holds Try.pinned (OpenSpec.ofChange fnCostAmountIsNearestButNeverFreeWrong)

/-- 'zzlaws_root_b1.FnTableSizeIsLeastStepAndRoundTrips': WHATEVER THE INPUT: true; the input reads as it did. -/
def fnTableSizeIsLeastStepAndRoundTripsSpec : ChangeSpec := { name := "fnTableSizeIsLeastStepAndRoundTrips", fn := fun _ => fun
  | [d] => { results := [.lit (.bool true)], args := [d] }
  | _ => none }
def fnTableSizeIsLeastStepAndRoundTripsRow : OpenClaim := { program := "qxb6619276a", sum := "44381207e229ccb5112e9b93cf43c51f39aadc0f6a138e0421a9d197c0b7c19c", func := "example.com/trikl/trikl/zzlaws_root_b1.FnTableSizeIsLeastStepAndRoundTrips", spec := "fnTableSizeIsLeastStepAndRoundTrips", apart := false }
def FnTableSizeIsLeastStepAndRoundTripsSaid : Prop := fnTableSizeIsLeastStepAndRoundTripsRow.holds Try.pinned (OpenSpec.ofChange fnTableSizeIsLeastStepAndRoundTripsSpec)

/-- ITS FALSE NEIGHBOUR: 'it returns false'. Refute it at one input. -/
def fnTableSizeIsLeastStepAndRoundTripsWrong : ChangeSpec := { name := "fnTableSizeIsLeastStepAndRoundTrips", fn := fun _ => fun
  | [d] => { results := [.lit (.bool false)], args := [d] }
  | _ => none }
def FnTableSizeIsLeastStepAndRoundTripsWrongFalsely : Prop := fnTableSizeIsLeastStepAndRoundTripsRow.holds Try.pinned (OpenSpec.ofChange fnTableSizeIsLeastStepAndRoundTripsWrong)

end Rows
end Go.Proofs.Qxb6619276a
