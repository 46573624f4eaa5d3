/-
  No cell of these rows narrows 'for every input' (looked for: loops, veiled, ifaces, maps, wideKeys, modest, calm, conditions, laid).
  DERIVED. THE GIVEN ROWS OF THIS SEAT. 6 by the template 'for every input the law returns true; each argument reads behind the call as it read before'; 0 by the template 'total and deterministic' (their statements: Qxb6600590aTotals.lean).
  GIVEN WITH THE SEED: the statements are not yours to turn. If you find one false, say at which input.
  Laid BY PROGRAM, IN A SANDBOX (cutbox-rows.mjs): the forced cells as the released guide's own fill.sh prints them over the translation 63059a72b67fda78… (all of the seat's roots in one cut). By AI agents, Wed Nov 11 2026. No macro, syntax, notation, axiom, sorry.
-/
import Derived.Test.Qxb6600590aChecked
import GoSem.Claim
import GoSem.ClaimJoined
import GoSem.ClaimMapViews
import Derived.JoinedTies
import Derived.KernelRfl
namespace Go.Proofs.Qxb6600590a
/- THE CELL 'sum', in the pinned program and in every row, IS THE sha256 OF THE DUMP (.gsa) THAT Qxb6600590aProg.lean LOADS. Nothing in Lean hashes anything: it is a label: what it is worth is what the hold of that sum in a sandbox is worth. -/
noncomputable def Try.pinned : Pinned := { name := "qxb6600590a", sum := "63059a72b67fda78afb39a71e8f67f261d27f3ba9c2e371a7d7ce002eba2e9ec", checked := Try.checked }
namespace Rows
def none {H : Type} : Left H := { results := [], args := [] }

/-- 'zzlaws_root_b1.FnJSONEscapeDecodesBack': WHATEVER THE INPUT: true; the input reads as it did. -/
def fnJSONEscapeDecodesBackSpec : ChangeSpec := { name := "fnJSONEscapeDecodesBack", fn := fun _ => fun
  | [d1, d2] => { results := [.lit (.bool true)], args := [d1, d2] }
  | _ => none }
def fnJSONEscapeDecodesBackRow : OpenClaim := { program := "qxb6600590a", sum := "63059a72b67fda78afb39a71e8f67f261d27f3ba9c2e371a7d7ce002eba2e9ec", func := "example.com/kempt-config/kempt-config/zzlaws_root_b1.FnJSONEscapeDecodesBack", spec := "fnJSONEscapeDecodesBack", apart := false }
def FnJSONEscapeDecodesBackSaid : Prop := fnJSONEscapeDecodesBackRow.holds Try.pinned (OpenSpec.ofChange fnJSONEscapeDecodesBackSpec)

/-- ITS FALSE NEIGHBOUR: 'it returns false'. Refute it at one input. -/
def fnJSONEscapeDecodesBackWrong : ChangeSpec := { name := "fnJSONEscapeDecodesBack", fn := fun _ => fun
  | [d1, d2] => { results := [.lit (.bool false)], args := [d1, d2] }
  | _ => none }
def FnJSONEscapeDecodesBackWrongFalsely : Prop := fnJSONEscapeDecodesBackRow.holds Try.pinned (OpenSpec.ofChange fnJSONEscapeDecodesBackWrong)

/-- 'zzlaws_root_b1.FnSubsetOfMatchesFilter': WHATEVER THE INPUT: true; the input reads as it did. -/
def fnSubsetOfMatchesFilterSpec : ChangeSpec := { name := "fnSubsetOfMatchesFilter", fn := fun _ => fun
  | [d1, d2, d3, d4] => { results := [.lit (.bool true)], args := [d1, d2, d3, d4] }
  | _ => none }
def fnSubsetOfMatchesFilterRow : OpenClaim := { program := "qxb6600590a", sum := "63059a72b67fda78afb39a71e8f67f261d27f3ba9c2e371a7d7ce002eba2e9ec", func := "example.com/kempt-config/kempt-config/zzlaws_root_b1.FnSubsetOfMatchesFilter", spec := "fnSubsetOfMatchesFilter", unfollowed := true, recurses := true, apart := false }
def FnSubsetOfMatchesFilterSaid : Prop := fnSubsetOfMatchesFilterRow.holds Try.pinned (OpenSpec.ofChange fnSubsetOfMatchesFilterSpec)

/-- ITS FALSE NEIGHBOUR: 'it returns false'. Refute it at one input. -/
def fnSubsetOfMatchesFilterWrong : ChangeSpec := { name := "fnSubsetOfMatchesFilter", fn := fun _ => fun
  | [d1, d2, d3, d4] => { results := [.lit (.bool false)], args := [d1, d2, d3, d4] }
  | _ => none }
def FnSubsetOfMatchesFilterWrongFalsely : Prop := fnSubsetOfMatchesFilterRow.holds Try.pinned (OpenSpec.ofChange fnSubsetOfMatchesFilterWrong)

/-- 'zzlaws_root_b1.FnSubsetOfFrontAndBackNamesAgree': WHATEVER THE INPUT: true; the input reads as it did. -/
def fnSubsetOfFrontAndBackNamesAgreeSpec : ChangeSpec := { name := "fnSubsetOfFrontAndBackNamesAgree", fn := fun _ => fun
  | [d1, d2, d3, d4] => { results := [.lit (.bool true)], args := [d1, d2, d3, d4] }
  | _ => none }
def fnSubsetOfFrontAndBackNamesAgreeRow : OpenClaim := { program := "qxb6600590a", sum := "63059a72b67fda78afb39a71e8f67f261d27f3ba9c2e371a7d7ce002eba2e9ec", func := "example.com/kempt-config/kempt-config/zzlaws_root_b1.FnSubsetOfFrontAndBackNamesAgree", spec := "fnSubsetOfFrontAndBackNamesAgree", unfollowed := true, recurses := true, apart := false }
def FnSubsetOfFrontAndBackNamesAgreeSaid : Prop := fnSubsetOfFrontAndBackNamesAgreeRow.holds Try.pinned (OpenSpec.ofChange fnSubsetOfFrontAndBackNamesAgreeSpec)

/-- ITS FALSE NEIGHBOUR: 'it returns false'. Refute it at one input. -/
def fnSubsetOfFrontAndBackNamesAgreeWrong : ChangeSpec := { name := "fnSubsetOfFrontAndBackNamesAgree", fn := fun _ => fun
  | [d1, d2, d3, d4] => { results := [.lit (.bool false)], args := [d1, d2, d3, d4] }
  | _ => none }
def FnSubsetOfFrontAndBackNamesAgreeWrongFalsely : Prop := fnSubsetOfFrontAndBackNamesAgreeRow.holds Try.pinned (OpenSpec.ofChange fnSubsetOfFrontAndBackNamesAgreeWrong)

/-- 'zzlaws_root_b1.FnSubsetOfOneRunSpanAgree': WHATEVER THE INPUT: true; the input reads as it did. -/
def fnSubsetOfOneRunSpanAgreeSpec : ChangeSpec := { name := "fnSubsetOfOneRunSpanAgree", fn := fun _ => fun
  | [d1, d2, d3] => { results := [.lit (.bool true)], args := [d1, d2, d3] }
  | _ => none }
def fnSubsetOfOneRunSpanAgreeRow : OpenClaim := { program := "qxb6600590a", sum := "63059a72b67fda78afb39a71e8f67f261d27f3ba9c2e371a7d7ce002eba2e9ec", func := "example.com/kempt-config/kempt-config/zzlaws_root_b1.FnSubsetOfOneRunSpanAgree", spec := "fnSubsetOfOneRunSpanAgree", unfollowed := true, recurses := true, apart := false }
def FnSubsetOfOneRunSpanAgreeSaid : Prop := fnSubsetOfOneRunSpanAgreeRow.holds Try.pinned (OpenSpec.ofChange fnSubsetOfOneRunSpanAgreeSpec)

/-- ITS FALSE NEIGHBOUR: 'it returns false'. Refute it at one input. -/
def fnSubsetOfOneRunSpanAgreeWrong : ChangeSpec := { name := "fnSubsetOfOneRunSpanAgree", fn := fun _ => fun
  | [d1, d2, d3] => { results := [.lit (.bool false)], args := [d1, d2, d3] }
  | _ => none }
def FnSubsetOfOneRunSpanAgreeWrongFalsely : Prop := fnSubsetOfOneRunSpanAgreeRow.holds Try.pinned (OpenSpec.ofChange fnSubsetOfOneRunSpanAgreeWrong)

/-- 'zzlaws_root_b1.FnAppendProductMatchesMixedRadix': WHATEVER THE INPUT: true; the input reads as it did. -/
def fnAppendProductMatchesMixedRadixSpec : ChangeSpec := { name := "fnAppendProductMatchesMixedRadix", fn := fun _ => fun
  | [d1, d2] => { results := [.lit (.bool true)], args := [d1, d2] }
  | _ => none }
def fnAppendProductMatchesMixedRadixRow : OpenClaim := { program := "qxb6600590a", sum := "63059a72b67fda78afb39a71e8f67f261d27f3ba9c2e371a7d7ce002eba2e9ec", func := "example.com/kempt-config/kempt-config/zzlaws_root_b1.FnAppendProductMatchesMixedRadix", spec := "fnAppendProductMatchesMixedRadix", unfollowed := true, recurses := true, apart := false }
def FnAppendProductMatchesMixedRadixSaid : Prop := fnAppendProductMatchesMixedRadixRow.holds Try.pinned (OpenSpec.ofChange fnAppendProductMatchesMixedRadixSpec)

/-- ITS FALSE NEIGHBOUR: 'it returns false'. Refute it at one input. -/
def fnAppendProductMatchesMixedRadixWrong : ChangeSpec := { name := "fnAppendProductMatchesMixedRadix", fn := fun _ => fun
  | [d1, d2] => { results := [.lit (.bool false)], args := [d1, d2] }
  | _ => none }
def FnAppendProductMatchesMixedRadixWrongFalsely : Prop := fnAppendProductMatchesMixedRadixRow.holds Try.pinned (OpenSpec.ofChange fnAppendProductMatchesMixedRadixWrong)

/-- 'zzlaws_root_b1.FnAppendProductSplits': WHATEVER THE INPUT: true; the input reads as it did. -/
def fnAppendProductSplitsSpec : ChangeSpec := { name := "fnAppendProductSplits", fn := fun _ => fun
  | [d1, d2] => { results := [.lit (.bool true)], args := [d1, d2] }
  | _ => none }
def fnAppendProductSplitsRow : OpenClaim := { program := "qxb6600590a", sum := "63059a72b67fda78afb39a71e8f67f261d27f3ba9c2e371a7d7ce002eba2e9ec", func := "example.com/kempt-config/kempt-config/zzlaws_root_b1.FnAppendProductSplits", spec := "fnAppendProductSplits", unfollowed := true, recurses := true, apart := false }
def FnAppendProductSplitsSaid : Prop := fnAppendProductSplitsRow.holds Try.pinned (OpenSpec.ofChange fnAppendProductSplitsSpec)

/-- ITS FALSE NEIGHBOUR: 'it returns false'. Refute it at one input. -/
def fnAppendProductSplitsWrong : ChangeSpec := { name := "fnAppendProductSplits", fn := fun _ => fun
  | [d1, d2] => { results := [.lit (.bool false)], args := [d1, d2] }
  | _ => none }
def FnAppendProductSplitsWrongFalsely : Prop := fnAppendProductSplitsRow.holds Try.pinned (OpenSpec.ofChange fnAppendProductSplitsWrong)

end Rows
end Go.Proofs.Qxb6600590a
