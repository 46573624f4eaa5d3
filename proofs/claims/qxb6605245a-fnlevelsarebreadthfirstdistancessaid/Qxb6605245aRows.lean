/-
  No cell of these rows narrows 'for every input' (looked for: loops, veiled, ifaces, maps, wideKeys, modest, calm, conditions, laid).
  DERIVED. THE GIVEN ROWS OF THIS SEAT. 2 by the template 'for every input the law returns true; each argument reads behind the call as it read before'; 0 by the template 'total and deterministic' (their statements: Qxb6605245aTotals.lean).
  GIVEN WITH THE SEED: the statements are not yours to turn. If you find one false, say at which input.
  Laid BY PROGRAM, IN A SANDBOX (cutbox-rows.mjs): the forced cells as the released guide's own fill.sh prints them over the translation 6d5b6e7e4c6f9d84… (all of the seat's roots in one cut). By AI agents, Wed Nov 11 2026. No macro, syntax, notation, axiom, sorry.
-/
import Derived.Test.Qxb6605245aChecked
import GoSem.Claim
import GoSem.ClaimJoined
import GoSem.ClaimMapViews
import Derived.JoinedTies
import Derived.KernelRfl
namespace Go.Proofs.Qxb6605245a
/- THE CELL 'sum', in the pinned program and in every row, IS THE sha256 OF THE DUMP (.gsa) THAT Qxb6605245aProg.lean LOADS. Nothing in Lean hashes anything: it is a label: what it is worth is what the hold of that sum in a sandbox is worth. -/
noncomputable def Try.pinned : Pinned := { name := "qxb6605245a", sum := "6d5b6e7e4c6f9d846ae46991e8c6acbb77b379939145439260bb789cc81b2d12", checked := Try.checked }
namespace Rows
def none {H : Type} : Left H := { results := [], args := [] }

/-- 'zzlaws_bucketmap_b1.FnLevelsAreBreadthFirstDistances': WHATEVER THE INPUT: true; the input reads as it did. -/
def fnLevelsAreBreadthFirstDistancesSpec : ChangeSpec := { name := "fnLevelsAreBreadthFirstDistances", fn := fun _ => fun
  | [d1, d2, d3, d4, d5, d6] => { results := [.lit (.bool true)], args := [d1, d2, d3, d4, d5, d6] }
  | _ => none }
def fnLevelsAreBreadthFirstDistancesRow : OpenClaim := { program := "qxb6605245a", sum := "6d5b6e7e4c6f9d846ae46991e8c6acbb77b379939145439260bb789cc81b2d12", func := "example.com/ringfence/ringfence/zzlaws_bucketmap_b1.FnLevelsAreBreadthFirstDistances", spec := "fnLevelsAreBreadthFirstDistances", apart := false }
def FnLevelsAreBreadthFirstDistancesSaid : Prop := fnLevelsAreBreadthFirstDistancesRow.holds Try.pinned (OpenSpec.ofChange fnLevelsAreBreadthFirstDistancesSpec)

/-- ITS FALSE NEIGHBOUR: 'it returns false'. Refute it at one input. -/
def fnLevelsAreBreadthFirstDistancesWrong : ChangeSpec := { name := "fnLevelsAreBreadthFirstDistances", fn := fun _ => fun
  | [d1, d2, d3, d4, d5, d6] => { results := [.lit (.bool false)], args := [d1, d2, d3, d4, d5, d6] }
  | _ => none }
def FnLevelsAreBreadthFirstDistancesWrongFalsely : Prop := fnLevelsAreBreadthFirstDistancesRow.holds Try.pinned (OpenSpec.ofChange fnLevelsAreBreadthFirstDistancesWrong)

/-- 'zzlaws_bucketmap_b1.FnPushSendsAlongOneLevelPathOrProvesNone': WHATEVER THE INPUT: true; the input reads as it did. -/
def fnPushSendsAlongOneLevelPathOrProvesNoneSpec : ChangeSpec := { name := "fnPushSendsAlongOneLevelPathOrProvesNone", fn := fun _ => fun
  | [d1, d2, d3, d4, d5, d6, d7, d8] => { results := [.lit (.bool true)], args := [d1, d2, d3, d4, d5, d6, d7, d8] }
  | _ => none }
def fnPushSendsAlongOneLevelPathOrProvesNoneRow : OpenClaim := { program := "qxb6605245a", sum := "6d5b6e7e4c6f9d846ae46991e8c6acbb77b379939145439260bb789cc81b2d12", func := "example.com/ringfence/ringfence/zzlaws_bucketmap_b1.FnPushSendsAlongOneLevelPathOrProvesNone", spec := "fnPushSendsAlongOneLevelPathOrProvesNone", recurses := true, apart := false }
def FnPushSendsAlongOneLevelPathOrProvesNoneSaid : Prop := fnPushSendsAlongOneLevelPathOrProvesNoneRow.holds Try.pinned (OpenSpec.ofChange fnPushSendsAlongOneLevelPathOrProvesNoneSpec)

/-- ITS FALSE NEIGHBOUR: 'it returns false'. Refute it at one input. -/
def fnPushSendsAlongOneLevelPathOrProvesNoneWrong : ChangeSpec := { name := "fnPushSendsAlongOneLevelPathOrProvesNone", fn := fun _ => fun
  | [d1, d2, d3, d4, d5, d6, d7, d8] => { results := [.lit (.bool false)], args := [d1, d2, d3, d4, d5, d6, d7, d8] }
  | _ => none }
def FnPushSendsAlongOneLevelPathOrProvesNoneWrongFalsely : Prop := fnPushSendsAlongOneLevelPathOrProvesNoneRow.holds Try.pinned (OpenSpec.ofChange fnPushSendsAlongOneLevelPathOrProvesNoneWrong)

end Rows
end Go.Proofs.Qxb6605245a
