/-
  No cell of these rows narrows 'for every input' (looked for: loops, veiled, ifaces, maps, wideKeys, modest, calm, conditions, laid).
  DERIVED. THE GIVEN ROWS OF THIS SEAT. 3 by the template 'for every input the law returns true; each argument reads behind the call as it read before'; 0 by the template 'total and deterministic' (their statements: Qxb6619273aTotals.lean).
  GIVEN WITH THE SEED: the statements are not yours to turn. If you find one false, say at which input.
  Laid BY PROGRAM, IN A SANDBOX (cutbox-rows.mjs): the forced cells as the released guide's own fill.sh prints them over the translation 2dab9daf3ff9ba29… (all of the seat's roots in one cut). By AI agents, Wed Nov 11 2026. No macro, syntax, notation, axiom, sorry.
-/
import Derived.Test.Qxb6619273aChecked
import GoSem.Claim
import GoSem.ClaimJoined
import GoSem.ClaimMapViews
import Derived.JoinedTies
import Derived.KernelRfl
namespace Go.Proofs.Qxb6619273a
/- THE CELL 'sum', in the pinned program and in every row, IS THE sha256 OF THE DUMP (.gsa) THAT Qxb6619273aProg.lean LOADS. Nothing in Lean hashes anything: it is a label: what it is worth is what the hold of that sum in a sandbox is worth. -/
noncomputable def Try.pinned : Pinned := { name := "qxb6619273a", sum := "2dab9daf3ff9ba29bb4a2ec65e245e7c0084d39e7b7cea6f51707484b17f7a74", checked := Try.checked }
namespace Rows
def none {H : Type} : Left H := { results := [], args := [] }

/-- 'zzlaws_internal_history_b1.FnEncodeItemDecodesBackCanonically': WHATEVER THE INPUT: true; the input reads as it did. -/
def fnEncodeItemDecodesBackCanonicallySpec : ChangeSpec := { name := "fnEncodeItemDecodesBackCanonically", fn := fun _ => fun
  | [d] => { results := [.lit (.bool true)], args := [d] }
  | _ => none }
def fnEncodeItemDecodesBackCanonicallyRow : OpenClaim := { program := "qxb6619273a", sum := "2dab9daf3ff9ba29bb4a2ec65e245e7c0084d39e7b7cea6f51707484b17f7a74", func := "example.com/interleave/interleave/zzlaws_internal_history_b1.FnEncodeItemDecodesBackCanonically", spec := "fnEncodeItemDecodesBackCanonically", inPlace := ["internal/abi.NoEscape", "internal/bytealg.MakeNoZero", "internal/bytealg.IndexByteString"], apart := false }
def FnEncodeItemDecodesBackCanonicallySaid : Prop := fnEncodeItemDecodesBackCanonicallyRow.holds Try.pinned (OpenSpec.ofChange fnEncodeItemDecodesBackCanonicallySpec)

/-- ITS FALSE NEIGHBOUR: 'it returns false'. Refute it at one input. -/
def fnEncodeItemDecodesBackCanonicallyWrong : ChangeSpec := { name := "fnEncodeItemDecodesBackCanonically", fn := fun _ => fun
  | [d] => { results := [.lit (.bool false)], args := [d] }
  | _ => none }
def FnEncodeItemDecodesBackCanonicallyWrongFalsely : Prop := fnEncodeItemDecodesBackCanonicallyRow.holds Try.pinned (OpenSpec.ofChange fnEncodeItemDecodesBackCanonicallyWrong)

/-- 'zzlaws_internal_history_b1.FnEncodeItemOfJoinedKeyIsJoinedItems': WHATEVER THE INPUT: true; the input reads as it did. -/
def fnEncodeItemOfJoinedKeyIsJoinedItemsSpec : ChangeSpec := { name := "fnEncodeItemOfJoinedKeyIsJoinedItems", fn := fun _ => fun
  | [d1, d2] => { results := [.lit (.bool true)], args := [d1, d2] }
  | _ => none }
def fnEncodeItemOfJoinedKeyIsJoinedItemsRow : OpenClaim := { program := "qxb6619273a", sum := "2dab9daf3ff9ba29bb4a2ec65e245e7c0084d39e7b7cea6f51707484b17f7a74", func := "example.com/interleave/interleave/zzlaws_internal_history_b1.FnEncodeItemOfJoinedKeyIsJoinedItems", spec := "fnEncodeItemOfJoinedKeyIsJoinedItems", inPlace := ["internal/abi.NoEscape", "internal/bytealg.MakeNoZero", "internal/bytealg.IndexByteString"], apart := false }
def FnEncodeItemOfJoinedKeyIsJoinedItemsSaid : Prop := fnEncodeItemOfJoinedKeyIsJoinedItemsRow.holds Try.pinned (OpenSpec.ofChange fnEncodeItemOfJoinedKeyIsJoinedItemsSpec)

/-- ITS FALSE NEIGHBOUR: 'it returns false'. Refute it at one input. -/
def fnEncodeItemOfJoinedKeyIsJoinedItemsWrong : ChangeSpec := { name := "fnEncodeItemOfJoinedKeyIsJoinedItems", fn := fun _ => fun
  | [d1, d2] => { results := [.lit (.bool false)], args := [d1, d2] }
  | _ => none }
def FnEncodeItemOfJoinedKeyIsJoinedItemsWrongFalsely : Prop := fnEncodeItemOfJoinedKeyIsJoinedItemsRow.holds Try.pinned (OpenSpec.ofChange fnEncodeItemOfJoinedKeyIsJoinedItemsWrong)

/-- 'zzlaws_internal_history_b1.FnEarliestConflictIsLeastConflictingPair': WHATEVER THE INPUT: true; the input reads as it did. -/
def fnEarliestConflictIsLeastConflictingPairSpec : ChangeSpec := { name := "fnEarliestConflictIsLeastConflictingPair", fn := fun _ => fun
  | [d1, d2, d3, d4, d5, d6, d7, d8] => { results := [.lit (.bool true)], args := [d1, d2, d3, d4, d5, d6, d7, d8] }
  | _ => none }
def fnEarliestConflictIsLeastConflictingPairRow : OpenClaim := { program := "qxb6619273a", sum := "2dab9daf3ff9ba29bb4a2ec65e245e7c0084d39e7b7cea6f51707484b17f7a74", func := "example.com/interleave/interleave/zzlaws_internal_history_b1.FnEarliestConflictIsLeastConflictingPair", spec := "fnEarliestConflictIsLeastConflictingPair", apart := false }
def FnEarliestConflictIsLeastConflictingPairSaid : Prop := fnEarliestConflictIsLeastConflictingPairRow.holds Try.pinned (OpenSpec.ofChange fnEarliestConflictIsLeastConflictingPairSpec)

/-- ITS FALSE NEIGHBOUR: 'it returns false'. Refute it at one input. -/
def fnEarliestConflictIsLeastConflictingPairWrong : ChangeSpec := { name := "fnEarliestConflictIsLeastConflictingPair", fn := fun _ => fun
  | [d1, d2, d3, d4, d5, d6, d7, d8] => { results := [.lit (.bool false)], args := [d1, d2, d3, d4, d5, d6, d7, d8] }
  | _ => none }
def FnEarliestConflictIsLeastConflictingPairWrongFalsely : Prop := fnEarliestConflictIsLeastConflictingPairRow.holds Try.pinned (OpenSpec.ofChange fnEarliestConflictIsLeastConflictingPairWrong)

end Rows
end Go.Proofs.Qxb6619273a
