/-
  No cell of these rows narrows 'for every input' (looked for: loops, veiled, ifaces, maps, wideKeys, modest, calm, conditions, laid).
  DERIVED. THE GIVEN ROWS OF THIS SEAT. 2 by the template 'for every input the law returns true; each argument reads behind the call as it read before'; 0 by the template 'total and deterministic' (their statements: Qxb6618387aTotals.lean).
  GIVEN WITH THE SEED: the statements are not yours to turn. If you find one false, say at which input.
  Laid BY PROGRAM, IN A SANDBOX (cutbox-rows.mjs): the forced cells as the released guide's own fill.sh prints them over the translation 4cbdb35329c63774… (all of the seat's roots in one cut). By AI agents, Wed Nov 11 2026. No macro, syntax, notation, axiom, sorry.
-/
import Derived.Test.Qxb6618387aChecked
import GoSem.Claim
import GoSem.ClaimJoined
import GoSem.ClaimMapViews
import Derived.JoinedTies
import Derived.KernelRfl
namespace Go.Proofs.Qxb6618387a
/- THE CELL 'sum', in the pinned program and in every row, IS THE sha256 OF THE DUMP (.gsa) THAT Qxb6618387aProg.lean LOADS. Nothing in Lean hashes anything: it is a label: what it is worth is what the hold of that sum in a sandbox is worth. -/
noncomputable def Try.pinned : Pinned := { name := "qxb6618387a", sum := "4cbdb35329c63774ada8db7333b12d8b7c743df5b990c5ceb8b277423c0d0317", checked := Try.checked }
namespace Rows
def none {H : Type} : Left H := { results := [], args := [] }

/-- 'zzlaws_internal_reload_b1.FnSameSplitsAtAnyCut': WHATEVER THE INPUT: true; the input reads as it did. -/
def fnSameSplitsAtAnyCutSpec : ChangeSpec := { name := "fnSameSplitsAtAnyCut", fn := fun _ => fun
  | [d1, d2, d3, d4, d5] => { results := [.lit (.bool true)], args := [d1, d2, d3, d4, d5] }
  | _ => none }
def fnSameSplitsAtAnyCutRow : OpenClaim := { program := "qxb6618387a", sum := "4cbdb35329c63774ada8db7333b12d8b7c743df5b990c5ceb8b277423c0d0317", func := "example.com/subject/subject/zzlaws_internal_reload_b1.FnSameSplitsAtAnyCut", spec := "fnSameSplitsAtAnyCut", apart := false }
def FnSameSplitsAtAnyCutSaid : Prop := fnSameSplitsAtAnyCutRow.holds Try.pinned (OpenSpec.ofChange fnSameSplitsAtAnyCutSpec)

/-- ITS FALSE NEIGHBOUR: 'it returns false'. Refute it at one input. -/
def fnSameSplitsAtAnyCutWrong : ChangeSpec := { name := "fnSameSplitsAtAnyCut", fn := fun _ => fun
  | [d1, d2, d3, d4, d5] => { results := [.lit (.bool false)], args := [d1, d2, d3, d4, d5] }
  | _ => none }
def FnSameSplitsAtAnyCutWrongFalsely : Prop := fnSameSplitsAtAnyCutRow.holds Try.pinned (OpenSpec.ofChange fnSameSplitsAtAnyCutWrong)

/-- 'zzlaws_internal_reload_b1.FnSameSeesEveryEdit': WHATEVER THE INPUT: true; the input reads as it did. -/
def fnSameSeesEveryEditSpec : ChangeSpec := { name := "fnSameSeesEveryEdit", fn := fun _ => fun
  | [d1, d2, d3, d4, d5] => { results := [.lit (.bool true)], args := [d1, d2, d3, d4, d5] }
  | _ => none }
def fnSameSeesEveryEditRow : OpenClaim := { program := "qxb6618387a", sum := "4cbdb35329c63774ada8db7333b12d8b7c743df5b990c5ceb8b277423c0d0317", func := "example.com/subject/subject/zzlaws_internal_reload_b1.FnSameSeesEveryEdit", spec := "fnSameSeesEveryEdit", apart := false }
def FnSameSeesEveryEditSaid : Prop := fnSameSeesEveryEditRow.holds Try.pinned (OpenSpec.ofChange fnSameSeesEveryEditSpec)

/-- ITS FALSE NEIGHBOUR: 'it returns false'. Refute it at one input. -/
def fnSameSeesEveryEditWrong : ChangeSpec := { name := "fnSameSeesEveryEdit", fn := fun _ => fun
  | [d1, d2, d3, d4, d5] => { results := [.lit (.bool false)], args := [d1, d2, d3, d4, d5] }
  | _ => none }
def FnSameSeesEveryEditWrongFalsely : Prop := fnSameSeesEveryEditRow.holds Try.pinned (OpenSpec.ofChange fnSameSeesEveryEditWrong)

end Rows
end Go.Proofs.Qxb6618387a
