/-
  No cell of these rows narrows 'for every input' (looked for: loops, veiled, ifaces, maps, wideKeys, modest, calm, conditions, laid).
  DERIVED. THE GIVEN ROWS OF THIS SEAT. 2 by the template 'for every input the law returns true; each argument reads behind the call as it read before'; 0 by the template 'total and deterministic' (their statements: Qxb6601057aTotals.lean).
  GIVEN WITH THE SEED: the statements are not yours to turn. If you find one false, say at which input.
  Laid BY PROGRAM, IN A SANDBOX (cutbox-rows.mjs): the forced cells as the released guide's own fill.sh prints them over the translation 8c898b75158eec40… (all of the seat's roots in one cut). By AI agents, Wed Nov 11 2026. No macro, syntax, notation, axiom, sorry.
-/
import Derived.Test.Qxb6601057aChecked
import GoSem.Claim
import GoSem.ClaimJoined
import GoSem.ClaimMapViews
import Derived.JoinedTies
import Derived.KernelRfl
namespace Go.Proofs.Qxb6601057a
/- THE CELL 'sum', in the pinned program and in every row, IS THE sha256 OF THE DUMP (.gsa) THAT Qxb6601057aProg.lean LOADS. Nothing in Lean hashes anything: it is a label: what it is worth is what the hold of that sum in a sandbox is worth. -/
noncomputable def Try.pinned : Pinned := { name := "qxb6601057a", sum := "8c898b75158eec40ba0a2a772967286e85c6db010601e6c7d8fa5331dc8eb3d0", checked := Try.checked }
namespace Rows
def none {H : Type} : Left H := { results := [], args := [] }

/-- 'zzlaws_store_b1.FnEncodeArrayDecodesBackExactly': WHATEVER THE INPUT: true; the input reads as it did. -/
def fnEncodeArrayDecodesBackExactlySpec : ChangeSpec := { name := "fnEncodeArrayDecodesBackExactly", fn := fun _ => fun
  | [d] => { results := [.lit (.bool true)], args := [d] }
  | _ => none }
def fnEncodeArrayDecodesBackExactlyRow : OpenClaim := { program := "qxb6601057a", sum := "8c898b75158eec40ba0a2a772967286e85c6db010601e6c7d8fa5331dc8eb3d0", func := "example.com/portcullis/portcullis/zzlaws_store_b1.FnEncodeArrayDecodesBackExactly", spec := "fnEncodeArrayDecodesBackExactly", apart := false }
def FnEncodeArrayDecodesBackExactlySaid : Prop := fnEncodeArrayDecodesBackExactlyRow.holds Try.pinned (OpenSpec.ofChange fnEncodeArrayDecodesBackExactlySpec)

/-- ITS FALSE NEIGHBOUR: 'it returns false'. Refute it at one input. -/
def fnEncodeArrayDecodesBackExactlyWrong : ChangeSpec := { name := "fnEncodeArrayDecodesBackExactly", fn := fun _ => fun
  | [d] => { results := [.lit (.bool false)], args := [d] }
  | _ => none }
def FnEncodeArrayDecodesBackExactlyWrongFalsely : Prop := fnEncodeArrayDecodesBackExactlyRow.holds Try.pinned (OpenSpec.ofChange fnEncodeArrayDecodesBackExactlyWrong)

/-- 'zzlaws_store_b1.FnEncodeArraySplicesConcatenation': WHATEVER THE INPUT: true; the input reads as it did. -/
def fnEncodeArraySplicesConcatenationSpec : ChangeSpec := { name := "fnEncodeArraySplicesConcatenation", fn := fun _ => fun
  | [d1, d2] => { results := [.lit (.bool true)], args := [d1, d2] }
  | _ => none }
def fnEncodeArraySplicesConcatenationRow : OpenClaim := { program := "qxb6601057a", sum := "8c898b75158eec40ba0a2a772967286e85c6db010601e6c7d8fa5331dc8eb3d0", func := "example.com/portcullis/portcullis/zzlaws_store_b1.FnEncodeArraySplicesConcatenation", spec := "fnEncodeArraySplicesConcatenation", apart := false }
def FnEncodeArraySplicesConcatenationSaid : Prop := fnEncodeArraySplicesConcatenationRow.holds Try.pinned (OpenSpec.ofChange fnEncodeArraySplicesConcatenationSpec)

/-- ITS FALSE NEIGHBOUR: 'it returns false'. Refute it at one input. -/
def fnEncodeArraySplicesConcatenationWrong : ChangeSpec := { name := "fnEncodeArraySplicesConcatenation", fn := fun _ => fun
  | [d1, d2] => { results := [.lit (.bool false)], args := [d1, d2] }
  | _ => none }
def FnEncodeArraySplicesConcatenationWrongFalsely : Prop := fnEncodeArraySplicesConcatenationRow.holds Try.pinned (OpenSpec.ofChange fnEncodeArraySplicesConcatenationWrong)

end Rows
end Go.Proofs.Qxb6601057a
