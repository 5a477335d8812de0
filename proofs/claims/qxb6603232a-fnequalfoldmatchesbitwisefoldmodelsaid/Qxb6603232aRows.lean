/-
  No cell of these rows narrows 'for every input' (looked for: loops, veiled, ifaces, maps, wideKeys, modest, calm, conditions, laid).
  DERIVED. THE GIVEN ROWS OF THIS SEAT. 6 by the template 'for every input the law returns true; each argument reads behind the call as it read before'; 0 by the template 'total and deterministic' (their statements: Qxb6603232aTotals.lean).
  GIVEN WITH THE SEED: the statements are not yours to turn. If you find one false, say at which input.
  Laid BY PROGRAM, IN A SANDBOX (cutbox-rows.mjs): the forced cells as the released guide's own fill.sh prints them over the translation 9642cce631e94b4b… (all of the seat's roots in one cut). By AI agents, Wed Nov 11 2026. No macro, syntax, notation, axiom, sorry.
-/
import Derived.Test.Qxb6603232aChecked
import GoSem.Claim
import GoSem.ClaimJoined
import GoSem.ClaimMapViews
import Derived.JoinedTies
import Derived.KernelRfl
namespace Go.Proofs.Qxb6603232a
/- THE CELL 'sum', in the pinned program and in every row, IS THE sha256 OF THE DUMP (.gsa) THAT Qxb6603232aProg.lean LOADS. Nothing in Lean hashes anything: it is a label: what it is worth is what the hold of that sum in a sandbox is worth. -/
noncomputable def Try.pinned : Pinned := { name := "qxb6603232a", sum := "9642cce631e94b4ba3a1675a918625c6bb96c374abebb96326dd06bcd9203129", checked := Try.checked }
namespace Rows
def none {H : Type} : Left H := { results := [], args := [] }

/-- 'zzlaws_internal_http1_b1.FnMethodStringIsExactlyItsBytes': WHATEVER THE INPUT: true; the input reads as it did. -/
def fnMethodStringIsExactlyItsBytesSpec : ChangeSpec := { name := "fnMethodStringIsExactlyItsBytes", fn := fun _ => fun
  | [d] => { results := [.lit (.bool true)], args := [d] }
  | _ => none }
def fnMethodStringIsExactlyItsBytesRow : OpenClaim := { program := "qxb6603232a", sum := "9642cce631e94b4ba3a1675a918625c6bb96c374abebb96326dd06bcd9203129", func := "example.com/tidewire/tidewire/zzlaws_internal_http1_b1.FnMethodStringIsExactlyItsBytes", spec := "fnMethodStringIsExactlyItsBytes", apart := false }
def FnMethodStringIsExactlyItsBytesSaid : Prop := fnMethodStringIsExactlyItsBytesRow.holds Try.pinned (OpenSpec.ofChange fnMethodStringIsExactlyItsBytesSpec)

/-- ITS FALSE NEIGHBOUR: 'it returns false'. Refute it at one input. -/
def fnMethodStringIsExactlyItsBytesWrong : ChangeSpec := { name := "fnMethodStringIsExactlyItsBytes", fn := fun _ => fun
  | [d] => { results := [.lit (.bool false)], args := [d] }
  | _ => none }
def FnMethodStringIsExactlyItsBytesWrongFalsely : Prop := fnMethodStringIsExactlyItsBytesRow.holds Try.pinned (OpenSpec.ofChange fnMethodStringIsExactlyItsBytesWrong)

/-- 'zzlaws_internal_http1_b1.FnEqualFoldMatchesBitwiseFoldModel': WHATEVER THE INPUT: true; the input reads as it did. -/
def fnEqualFoldMatchesBitwiseFoldModelSpec : ChangeSpec := { name := "fnEqualFoldMatchesBitwiseFoldModel", fn := fun _ => fun
  | [d1, d2] => { results := [.lit (.bool true)], args := [d1, d2] }
  | _ => none }
def fnEqualFoldMatchesBitwiseFoldModelRow : OpenClaim := { program := "qxb6603232a", sum := "9642cce631e94b4ba3a1675a918625c6bb96c374abebb96326dd06bcd9203129", func := "example.com/tidewire/tidewire/zzlaws_internal_http1_b1.FnEqualFoldMatchesBitwiseFoldModel", spec := "fnEqualFoldMatchesBitwiseFoldModel", apart := false }
def FnEqualFoldMatchesBitwiseFoldModelSaid : Prop := fnEqualFoldMatchesBitwiseFoldModelRow.holds Try.pinned (OpenSpec.ofChange fnEqualFoldMatchesBitwiseFoldModelSpec)

/-- ITS FALSE NEIGHBOUR: 'it returns false'. Refute it at one input. -/
def fnEqualFoldMatchesBitwiseFoldModelWrong : ChangeSpec := { name := "fnEqualFoldMatchesBitwiseFoldModel", fn := fun _ => fun
  | [d1, d2] => { results := [.lit (.bool false)], args := [d1, d2] }
  | _ => none }
def FnEqualFoldMatchesBitwiseFoldModelWrongFalsely : Prop := fnEqualFoldMatchesBitwiseFoldModelRow.holds Try.pinned (OpenSpec.ofChange fnEqualFoldMatchesBitwiseFoldModelWrong)

/-- 'zzlaws_internal_http1_b1.FnEqualFoldIsSymmetric': WHATEVER THE INPUT: true; the input reads as it did. -/
def fnEqualFoldIsSymmetricSpec : ChangeSpec := { name := "fnEqualFoldIsSymmetric", fn := fun _ => fun
  | [d1, d2] => { results := [.lit (.bool true)], args := [d1, d2] }
  | _ => none }
def fnEqualFoldIsSymmetricRow : OpenClaim := { program := "qxb6603232a", sum := "9642cce631e94b4ba3a1675a918625c6bb96c374abebb96326dd06bcd9203129", func := "example.com/tidewire/tidewire/zzlaws_internal_http1_b1.FnEqualFoldIsSymmetric", spec := "fnEqualFoldIsSymmetric", apart := false }
def FnEqualFoldIsSymmetricSaid : Prop := fnEqualFoldIsSymmetricRow.holds Try.pinned (OpenSpec.ofChange fnEqualFoldIsSymmetricSpec)

/-- ITS FALSE NEIGHBOUR: 'it returns false'. Refute it at one input. -/
def fnEqualFoldIsSymmetricWrong : ChangeSpec := { name := "fnEqualFoldIsSymmetric", fn := fun _ => fun
  | [d1, d2] => { results := [.lit (.bool false)], args := [d1, d2] }
  | _ => none }
def FnEqualFoldIsSymmetricWrongFalsely : Prop := fnEqualFoldIsSymmetricRow.holds Try.pinned (OpenSpec.ofChange fnEqualFoldIsSymmetricWrong)

/-- 'zzlaws_internal_http1_b1.FnEqualFoldIsTransitive': WHATEVER THE INPUT: true; the input reads as it did. -/
def fnEqualFoldIsTransitiveSpec : ChangeSpec := { name := "fnEqualFoldIsTransitive", fn := fun _ => fun
  | [d1, d2, d3] => { results := [.lit (.bool true)], args := [d1, d2, d3] }
  | _ => none }
def fnEqualFoldIsTransitiveRow : OpenClaim := { program := "qxb6603232a", sum := "9642cce631e94b4ba3a1675a918625c6bb96c374abebb96326dd06bcd9203129", func := "example.com/tidewire/tidewire/zzlaws_internal_http1_b1.FnEqualFoldIsTransitive", spec := "fnEqualFoldIsTransitive", apart := false }
def FnEqualFoldIsTransitiveSaid : Prop := fnEqualFoldIsTransitiveRow.holds Try.pinned (OpenSpec.ofChange fnEqualFoldIsTransitiveSpec)

/-- ITS FALSE NEIGHBOUR: 'it returns false'. Refute it at one input. -/
def fnEqualFoldIsTransitiveWrong : ChangeSpec := { name := "fnEqualFoldIsTransitive", fn := fun _ => fun
  | [d1, d2, d3] => { results := [.lit (.bool false)], args := [d1, d2, d3] }
  | _ => none }
def FnEqualFoldIsTransitiveWrongFalsely : Prop := fnEqualFoldIsTransitiveRow.holds Try.pinned (OpenSpec.ofChange fnEqualFoldIsTransitiveWrong)

/-- 'zzlaws_internal_http1_b1.FnCleanFieldValueIsIdempotent': WHATEVER THE INPUT: true; the input reads as it did. -/
def fnCleanFieldValueIsIdempotentSpec : ChangeSpec := { name := "fnCleanFieldValueIsIdempotent", fn := fun _ => fun
  | [d] => { results := [.lit (.bool true)], args := [d] }
  | _ => none }
def fnCleanFieldValueIsIdempotentRow : OpenClaim := { program := "qxb6603232a", sum := "9642cce631e94b4ba3a1675a918625c6bb96c374abebb96326dd06bcd9203129", func := "example.com/tidewire/tidewire/zzlaws_internal_http1_b1.FnCleanFieldValueIsIdempotent", spec := "fnCleanFieldValueIsIdempotent", apart := false }
def FnCleanFieldValueIsIdempotentSaid : Prop := fnCleanFieldValueIsIdempotentRow.holds Try.pinned (OpenSpec.ofChange fnCleanFieldValueIsIdempotentSpec)

/-- ITS FALSE NEIGHBOUR: 'it returns false'. Refute it at one input. -/
def fnCleanFieldValueIsIdempotentWrong : ChangeSpec := { name := "fnCleanFieldValueIsIdempotent", fn := fun _ => fun
  | [d] => { results := [.lit (.bool false)], args := [d] }
  | _ => none }
def FnCleanFieldValueIsIdempotentWrongFalsely : Prop := fnCleanFieldValueIsIdempotentRow.holds Try.pinned (OpenSpec.ofChange fnCleanFieldValueIsIdempotentWrong)

/-- 'zzlaws_internal_http1_b1.FnCleanFieldValueDistributesOverConcat': WHATEVER THE INPUT: true; the input reads as it did. -/
def fnCleanFieldValueDistributesOverConcatSpec : ChangeSpec := { name := "fnCleanFieldValueDistributesOverConcat", fn := fun _ => fun
  | [d1, d2] => { results := [.lit (.bool true)], args := [d1, d2] }
  | _ => none }
def fnCleanFieldValueDistributesOverConcatRow : OpenClaim := { program := "qxb6603232a", sum := "9642cce631e94b4ba3a1675a918625c6bb96c374abebb96326dd06bcd9203129", func := "example.com/tidewire/tidewire/zzlaws_internal_http1_b1.FnCleanFieldValueDistributesOverConcat", spec := "fnCleanFieldValueDistributesOverConcat", apart := false }
def FnCleanFieldValueDistributesOverConcatSaid : Prop := fnCleanFieldValueDistributesOverConcatRow.holds Try.pinned (OpenSpec.ofChange fnCleanFieldValueDistributesOverConcatSpec)

/-- ITS FALSE NEIGHBOUR: 'it returns false'. Refute it at one input. -/
def fnCleanFieldValueDistributesOverConcatWrong : ChangeSpec := { name := "fnCleanFieldValueDistributesOverConcat", fn := fun _ => fun
  | [d1, d2] => { results := [.lit (.bool false)], args := [d1, d2] }
  | _ => none }
def FnCleanFieldValueDistributesOverConcatWrongFalsely : Prop := fnCleanFieldValueDistributesOverConcatRow.holds Try.pinned (OpenSpec.ofChange fnCleanFieldValueDistributesOverConcatWrong)

end Rows
end Go.Proofs.Qxb6603232a
