/-
  No cell of these rows narrows 'for every input' (looked for: loops, veiled, ifaces, maps, wideKeys, modest, calm, conditions, laid).
  DERIVED. THE GIVEN ROWS OF THIS SEAT. 5 by the template 'for every input the law returns true; each argument reads behind the call as it read before'; 0 by the template 'total and deterministic' (their statements: Qxb6603291aTotals.lean).
  GIVEN WITH THE SEED: the statements are not yours to turn. If you find one false, say at which input.
  Laid BY PROGRAM, IN A SANDBOX (cutbox-rows.mjs): the forced cells as the released guide's own fill.sh prints them over the translation 0820bff63b63b5c4… (all of the seat's roots in one cut). By AI agents, Wed Nov 11 2026. No macro, syntax, notation, axiom, sorry.
-/
import Derived.Test.Qxb6603291aChecked
import GoSem.Claim
import GoSem.ClaimJoined
import GoSem.ClaimMapViews
import Derived.JoinedTies
import Derived.KernelRfl
namespace Go.Proofs.Qxb6603291a
/- THE CELL 'sum', in the pinned program and in every row, IS THE sha256 OF THE DUMP (.gsa) THAT Qxb6603291aProg.lean LOADS. Nothing in Lean hashes anything: it is a label: what it is worth is what the hold of that sum in a sandbox is worth. -/
noncomputable def Try.pinned : Pinned := { name := "qxb6603291a", sum := "0820bff63b63b5c401015c6d27d242f8024541fdd7364a5f312f353bf673b6ce", checked := Try.checked }
namespace Rows
def none {H : Type} : Left H := { results := [], args := [] }

/-- 'zzlaws_internal_manifest_b1.FnIntegerMatchesCanonicalDecimal': WHATEVER THE INPUT: true; the input reads as it did. -/
def fnIntegerMatchesCanonicalDecimalSpec : ChangeSpec := { name := "fnIntegerMatchesCanonicalDecimal", fn := fun _ => fun
  | [d1, d2, d3] => { results := [.lit (.bool true)], args := [d1, d2, d3] }
  | _ => none }
def fnIntegerMatchesCanonicalDecimalRow : OpenClaim := { program := "qxb6603291a", sum := "0820bff63b63b5c401015c6d27d242f8024541fdd7364a5f312f353bf673b6ce", func := "example.com/tollgate/tollgate/zzlaws_internal_manifest_b1.FnIntegerMatchesCanonicalDecimal", spec := "fnIntegerMatchesCanonicalDecimal", apart := false }
def FnIntegerMatchesCanonicalDecimalSaid : Prop := fnIntegerMatchesCanonicalDecimalRow.holds Try.pinned (OpenSpec.ofChange fnIntegerMatchesCanonicalDecimalSpec)

/-- ITS FALSE NEIGHBOUR: 'it returns false'. Refute it at one input. -/
def fnIntegerMatchesCanonicalDecimalWrong : ChangeSpec := { name := "fnIntegerMatchesCanonicalDecimal", fn := fun _ => fun
  | [d1, d2, d3] => { results := [.lit (.bool false)], args := [d1, d2, d3] }
  | _ => none }
def FnIntegerMatchesCanonicalDecimalWrongFalsely : Prop := fnIntegerMatchesCanonicalDecimalRow.holds Try.pinned (OpenSpec.ofChange fnIntegerMatchesCanonicalDecimalWrong)

/-- 'zzlaws_internal_manifest_b1.FnIntegerReadsBackItsDecimal': WHATEVER THE INPUT: true; the input reads as it did. -/
def fnIntegerReadsBackItsDecimalSpec : ChangeSpec := { name := "fnIntegerReadsBackItsDecimal", fn := fun _ => fun
  | [d1, d2, d3, d4] => { results := [.lit (.bool true)], args := [d1, d2, d3, d4] }
  | _ => none }
def fnIntegerReadsBackItsDecimalRow : OpenClaim := { program := "qxb6603291a", sum := "0820bff63b63b5c401015c6d27d242f8024541fdd7364a5f312f353bf673b6ce", func := "example.com/tollgate/tollgate/zzlaws_internal_manifest_b1.FnIntegerReadsBackItsDecimal", spec := "fnIntegerReadsBackItsDecimal", apart := false }
def FnIntegerReadsBackItsDecimalSaid : Prop := fnIntegerReadsBackItsDecimalRow.holds Try.pinned (OpenSpec.ofChange fnIntegerReadsBackItsDecimalSpec)

/-- ITS FALSE NEIGHBOUR: 'it returns false'. Refute it at one input. -/
def fnIntegerReadsBackItsDecimalWrong : ChangeSpec := { name := "fnIntegerReadsBackItsDecimal", fn := fun _ => fun
  | [d1, d2, d3, d4] => { results := [.lit (.bool false)], args := [d1, d2, d3, d4] }
  | _ => none }
def FnIntegerReadsBackItsDecimalWrongFalsely : Prop := fnIntegerReadsBackItsDecimalRow.holds Try.pinned (OpenSpec.ofChange fnIntegerReadsBackItsDecimalWrong)

/-- 'zzlaws_internal_manifest_b1.FnWritesMemberIsUnescapedOccurrence': WHATEVER THE INPUT: true; the input reads as it did. -/
def fnWritesMemberIsUnescapedOccurrenceSpec : ChangeSpec := { name := "fnWritesMemberIsUnescapedOccurrence", fn := fun _ => fun
  | [d1, d2] => { results := [.lit (.bool true)], args := [d1, d2] }
  | _ => none }
def fnWritesMemberIsUnescapedOccurrenceRow : OpenClaim := { program := "qxb6603291a", sum := "0820bff63b63b5c401015c6d27d242f8024541fdd7364a5f312f353bf673b6ce", func := "example.com/tollgate/tollgate/zzlaws_internal_manifest_b1.FnWritesMemberIsUnescapedOccurrence", spec := "fnWritesMemberIsUnescapedOccurrence", inPlace := ["internal/bytealg.IndexByte", "internal/bytealg.Index"], named := ["internal/bytealg.MaxLen"], apart := false }
def FnWritesMemberIsUnescapedOccurrenceSaid : Prop := fnWritesMemberIsUnescapedOccurrenceRow.holds Try.pinned (OpenSpec.ofChange fnWritesMemberIsUnescapedOccurrenceSpec)

/-- ITS FALSE NEIGHBOUR: 'it returns false'. Refute it at one input. -/
def fnWritesMemberIsUnescapedOccurrenceWrong : ChangeSpec := { name := "fnWritesMemberIsUnescapedOccurrence", fn := fun _ => fun
  | [d1, d2] => { results := [.lit (.bool false)], args := [d1, d2] }
  | _ => none }
def FnWritesMemberIsUnescapedOccurrenceWrongFalsely : Prop := fnWritesMemberIsUnescapedOccurrenceRow.holds Try.pinned (OpenSpec.ofChange fnWritesMemberIsUnescapedOccurrenceWrong)

/-- 'zzlaws_internal_manifest_b1.FnWritesMemberSurvivesContext': WHATEVER THE INPUT: true; the input reads as it did. -/
def fnWritesMemberSurvivesContextSpec : ChangeSpec := { name := "fnWritesMemberSurvivesContext", fn := fun _ => fun
  | [d1, d2, d3, d4] => { results := [.lit (.bool true)], args := [d1, d2, d3, d4] }
  | _ => none }
def fnWritesMemberSurvivesContextRow : OpenClaim := { program := "qxb6603291a", sum := "0820bff63b63b5c401015c6d27d242f8024541fdd7364a5f312f353bf673b6ce", func := "example.com/tollgate/tollgate/zzlaws_internal_manifest_b1.FnWritesMemberSurvivesContext", spec := "fnWritesMemberSurvivesContext", inPlace := ["internal/bytealg.IndexByte", "internal/bytealg.Index"], named := ["internal/bytealg.MaxLen"], apart := false }
def FnWritesMemberSurvivesContextSaid : Prop := fnWritesMemberSurvivesContextRow.holds Try.pinned (OpenSpec.ofChange fnWritesMemberSurvivesContextSpec)

/-- ITS FALSE NEIGHBOUR: 'it returns false'. Refute it at one input. -/
def fnWritesMemberSurvivesContextWrong : ChangeSpec := { name := "fnWritesMemberSurvivesContext", fn := fun _ => fun
  | [d1, d2, d3, d4] => { results := [.lit (.bool false)], args := [d1, d2, d3, d4] }
  | _ => none }
def FnWritesMemberSurvivesContextWrongFalsely : Prop := fnWritesMemberSurvivesContextRow.holds Try.pinned (OpenSpec.ofChange fnWritesMemberSurvivesContextWrong)

/-- 'zzlaws_internal_manifest_b1.FnWritesMemberParityOfEscapes': WHATEVER THE INPUT: true; the input reads as it did. -/
def fnWritesMemberParityOfEscapesSpec : ChangeSpec := { name := "fnWritesMemberParityOfEscapes", fn := fun _ => fun
  | [d1, d2] => { results := [.lit (.bool true)], args := [d1, d2] }
  | _ => none }
def fnWritesMemberParityOfEscapesRow : OpenClaim := { program := "qxb6603291a", sum := "0820bff63b63b5c401015c6d27d242f8024541fdd7364a5f312f353bf673b6ce", func := "example.com/tollgate/tollgate/zzlaws_internal_manifest_b1.FnWritesMemberParityOfEscapes", spec := "fnWritesMemberParityOfEscapes", inPlace := ["internal/bytealg.IndexByte", "internal/bytealg.Index"], named := ["internal/bytealg.MaxLen"], apart := false }
def FnWritesMemberParityOfEscapesSaid : Prop := fnWritesMemberParityOfEscapesRow.holds Try.pinned (OpenSpec.ofChange fnWritesMemberParityOfEscapesSpec)

/-- ITS FALSE NEIGHBOUR: 'it returns false'. Refute it at one input. -/
def fnWritesMemberParityOfEscapesWrong : ChangeSpec := { name := "fnWritesMemberParityOfEscapes", fn := fun _ => fun
  | [d1, d2] => { results := [.lit (.bool false)], args := [d1, d2] }
  | _ => none }
def FnWritesMemberParityOfEscapesWrongFalsely : Prop := fnWritesMemberParityOfEscapesRow.holds Try.pinned (OpenSpec.ofChange fnWritesMemberParityOfEscapesWrong)

end Rows
end Go.Proofs.Qxb6603291a
