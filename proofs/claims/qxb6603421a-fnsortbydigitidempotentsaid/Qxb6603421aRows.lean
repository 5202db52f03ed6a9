/-
  No cell of these rows narrows 'for every input' (looked for: loops, veiled, ifaces, maps, wideKeys, modest, calm, conditions, laid).
  DERIVED. THE GIVEN ROWS OF THIS SEAT. 7 by the template 'for every input the law returns true; each argument reads behind the call as it read before'; 0 by the template 'total and deterministic' (their statements: Qxb6603421aTotals.lean).
  GIVEN WITH THE SEED: the statements are not yours to turn. If you find one false, say at which input.
  Laid BY PROGRAM, IN A SANDBOX (cutbox-rows.mjs): the forced cells as the released guide's own fill.sh prints them over the translation 05e6e8dac4787195… (all of the seat's roots in one cut). By AI agents, Wed Nov 11 2026. No macro, syntax, notation, axiom, sorry.
-/
import Derived.Test.Qxb6603421aChecked
import GoSem.Claim
import GoSem.ClaimJoined
import GoSem.ClaimMapViews
import Derived.JoinedTies
import Derived.KernelRfl
namespace Go.Proofs.Qxb6603421a
/- THE CELL 'sum', in the pinned program and in every row, IS THE sha256 OF THE DUMP (.gsa) THAT Qxb6603421aProg.lean LOADS. Nothing in Lean hashes anything: it is a label: what it is worth is what the hold of that sum in a sandbox is worth. -/
noncomputable def Try.pinned : Pinned := { name := "qxb6603421a", sum := "05e6e8dac4787195fca337e3b004da95c8771f508cf58fdb13a6c5169fae2dd9", checked := Try.checked }
namespace Rows
def none {H : Type} : Left H := { results := [], args := [] }

/-- 'zzlaws_internal_canon_b1.FnSortByDigitIsStableSortByW': WHATEVER THE INPUT: true; the input reads as it did. -/
def fnSortByDigitIsStableSortByWSpec : ChangeSpec := { name := "fnSortByDigitIsStableSortByW", fn := fun _ => fun
  | [d1, d2] => { results := [.lit (.bool true)], args := [d1, d2] }
  | _ => none }
def fnSortByDigitIsStableSortByWRow : OpenClaim := { program := "qxb6603421a", sum := "05e6e8dac4787195fca337e3b004da95c8771f508cf58fdb13a6c5169fae2dd9", func := "example.com/acacia-ant/acacia-ant/zzlaws_internal_canon_b1.FnSortByDigitIsStableSortByW", spec := "fnSortByDigitIsStableSortByW", apart := false }
def FnSortByDigitIsStableSortByWSaid : Prop := fnSortByDigitIsStableSortByWRow.holds Try.pinned (OpenSpec.ofChange fnSortByDigitIsStableSortByWSpec)

/-- ITS FALSE NEIGHBOUR: 'it returns false'. Refute it at one input. -/
def fnSortByDigitIsStableSortByWWrong : ChangeSpec := { name := "fnSortByDigitIsStableSortByW", fn := fun _ => fun
  | [d1, d2] => { results := [.lit (.bool false)], args := [d1, d2] }
  | _ => none }
def FnSortByDigitIsStableSortByWWrongFalsely : Prop := fnSortByDigitIsStableSortByWRow.holds Try.pinned (OpenSpec.ofChange fnSortByDigitIsStableSortByWWrong)

/-- 'zzlaws_internal_canon_b1.FnSortByDigitIdempotent': WHATEVER THE INPUT: true; the input reads as it did. -/
def fnSortByDigitIdempotentSpec : ChangeSpec := { name := "fnSortByDigitIdempotent", fn := fun _ => fun
  | [d1, d2] => { results := [.lit (.bool true)], args := [d1, d2] }
  | _ => none }
def fnSortByDigitIdempotentRow : OpenClaim := { program := "qxb6603421a", sum := "05e6e8dac4787195fca337e3b004da95c8771f508cf58fdb13a6c5169fae2dd9", func := "example.com/acacia-ant/acacia-ant/zzlaws_internal_canon_b1.FnSortByDigitIdempotent", spec := "fnSortByDigitIdempotent", apart := false }
def FnSortByDigitIdempotentSaid : Prop := fnSortByDigitIdempotentRow.holds Try.pinned (OpenSpec.ofChange fnSortByDigitIdempotentSpec)

/-- ITS FALSE NEIGHBOUR: 'it returns false'. Refute it at one input. -/
def fnSortByDigitIdempotentWrong : ChangeSpec := { name := "fnSortByDigitIdempotent", fn := fun _ => fun
  | [d1, d2] => { results := [.lit (.bool false)], args := [d1, d2] }
  | _ => none }
def FnSortByDigitIdempotentWrongFalsely : Prop := fnSortByDigitIdempotentRow.holds Try.pinned (OpenSpec.ofChange fnSortByDigitIdempotentWrong)

/-- 'zzlaws_internal_canon_b1.FnWeighWordIsByteTable': WHATEVER THE INPUT: true; the input reads as it did. -/
def fnWeighWordIsByteTableSpec : ChangeSpec := { name := "fnWeighWordIsByteTable", fn := fun _ => fun
  | [d1, d2] => { results := [.lit (.bool true)], args := [d1, d2] }
  | _ => none }
def fnWeighWordIsByteTableRow : OpenClaim := { program := "qxb6603421a", sum := "05e6e8dac4787195fca337e3b004da95c8771f508cf58fdb13a6c5169fae2dd9", func := "example.com/acacia-ant/acacia-ant/zzlaws_internal_canon_b1.FnWeighWordIsByteTable", spec := "fnWeighWordIsByteTable", apart := false }
def FnWeighWordIsByteTableSaid : Prop := fnWeighWordIsByteTableRow.holds Try.pinned (OpenSpec.ofChange fnWeighWordIsByteTableSpec)

/-- ITS FALSE NEIGHBOUR: 'it returns false'. Refute it at one input. -/
def fnWeighWordIsByteTableWrong : ChangeSpec := { name := "fnWeighWordIsByteTable", fn := fun _ => fun
  | [d1, d2] => { results := [.lit (.bool false)], args := [d1, d2] }
  | _ => none }
def FnWeighWordIsByteTableWrongFalsely : Prop := fnWeighWordIsByteTableRow.holds Try.pinned (OpenSpec.ofChange fnWeighWordIsByteTableWrong)

/-- 'zzlaws_internal_canon_b1.FnWeighWordInjective': WHATEVER THE INPUT: true; the input reads as it did. -/
def fnWeighWordInjectiveSpec : ChangeSpec := { name := "fnWeighWordInjective", fn := fun _ => fun
  | [d1, d2, d3] => { results := [.lit (.bool true)], args := [d1, d2, d3] }
  | _ => none }
def fnWeighWordInjectiveRow : OpenClaim := { program := "qxb6603421a", sum := "05e6e8dac4787195fca337e3b004da95c8771f508cf58fdb13a6c5169fae2dd9", func := "example.com/acacia-ant/acacia-ant/zzlaws_internal_canon_b1.FnWeighWordInjective", spec := "fnWeighWordInjective", apart := false }
def FnWeighWordInjectiveSaid : Prop := fnWeighWordInjectiveRow.holds Try.pinned (OpenSpec.ofChange fnWeighWordInjectiveSpec)

/-- ITS FALSE NEIGHBOUR: 'it returns false'. Refute it at one input. -/
def fnWeighWordInjectiveWrong : ChangeSpec := { name := "fnWeighWordInjective", fn := fun _ => fun
  | [d1, d2, d3] => { results := [.lit (.bool false)], args := [d1, d2, d3] }
  | _ => none }
def FnWeighWordInjectiveWrongFalsely : Prop := fnWeighWordInjectiveRow.holds Try.pinned (OpenSpec.ofChange fnWeighWordInjectiveWrong)

/-- 'zzlaws_internal_canon_b1.FnWeighWordComparesCharsAsUTF16': WHATEVER THE INPUT: true; the input reads as it did. -/
def fnWeighWordComparesCharsAsUTF16Spec : ChangeSpec := { name := "fnWeighWordComparesCharsAsUTF16", fn := fun _ => fun
  | [d1, d2, d3, d4] => { results := [.lit (.bool true)], args := [d1, d2, d3, d4] }
  | _ => none }
def fnWeighWordComparesCharsAsUTF16Row : OpenClaim := { program := "qxb6603421a", sum := "05e6e8dac4787195fca337e3b004da95c8771f508cf58fdb13a6c5169fae2dd9", func := "example.com/acacia-ant/acacia-ant/zzlaws_internal_canon_b1.FnWeighWordComparesCharsAsUTF16", spec := "fnWeighWordComparesCharsAsUTF16", apart := false }
def FnWeighWordComparesCharsAsUTF16Said : Prop := fnWeighWordComparesCharsAsUTF16Row.holds Try.pinned (OpenSpec.ofChange fnWeighWordComparesCharsAsUTF16Spec)

/-- ITS FALSE NEIGHBOUR: 'it returns false'. Refute it at one input. -/
def fnWeighWordComparesCharsAsUTF16Wrong : ChangeSpec := { name := "fnWeighWordComparesCharsAsUTF16", fn := fun _ => fun
  | [d1, d2, d3, d4] => { results := [.lit (.bool false)], args := [d1, d2, d3, d4] }
  | _ => none }
def FnWeighWordComparesCharsAsUTF16WrongFalsely : Prop := fnWeighWordComparesCharsAsUTF16Row.holds Try.pinned (OpenSpec.ofChange fnWeighWordComparesCharsAsUTF16Wrong)

/-- 'zzlaws_internal_canon_b1.FnReadInlineSortsPieces': WHATEVER THE INPUT: true; the input reads as it did. -/
def fnReadInlineSortsPiecesSpec : ChangeSpec := { name := "fnReadInlineSortsPieces", fn := fun _ => fun
  | [d1, d2, d3] => { results := [.lit (.bool true)], args := [d1, d2, d3] }
  | _ => none }
def fnReadInlineSortsPiecesRow : OpenClaim := { program := "qxb6603421a", sum := "05e6e8dac4787195fca337e3b004da95c8771f508cf58fdb13a6c5169fae2dd9", func := "example.com/acacia-ant/acacia-ant/zzlaws_internal_canon_b1.FnReadInlineSortsPieces", spec := "fnReadInlineSortsPieces", apart := false }
def FnReadInlineSortsPiecesSaid : Prop := fnReadInlineSortsPiecesRow.holds Try.pinned (OpenSpec.ofChange fnReadInlineSortsPiecesSpec)

/-- ITS FALSE NEIGHBOUR: 'it returns false'. Refute it at one input. -/
def fnReadInlineSortsPiecesWrong : ChangeSpec := { name := "fnReadInlineSortsPieces", fn := fun _ => fun
  | [d1, d2, d3] => { results := [.lit (.bool false)], args := [d1, d2, d3] }
  | _ => none }
def FnReadInlineSortsPiecesWrongFalsely : Prop := fnReadInlineSortsPiecesRow.holds Try.pinned (OpenSpec.ofChange fnReadInlineSortsPiecesWrong)

/-- 'zzlaws_internal_canon_b1.FnReadInlineIgnoresOrderAndEmptyPieces': WHATEVER THE INPUT: true; the input reads as it did. -/
def fnReadInlineIgnoresOrderAndEmptyPiecesSpec : ChangeSpec := { name := "fnReadInlineIgnoresOrderAndEmptyPieces", fn := fun _ => fun
  | [d] => { results := [.lit (.bool true)], args := [d] }
  | _ => none }
def fnReadInlineIgnoresOrderAndEmptyPiecesRow : OpenClaim := { program := "qxb6603421a", sum := "05e6e8dac4787195fca337e3b004da95c8771f508cf58fdb13a6c5169fae2dd9", func := "example.com/acacia-ant/acacia-ant/zzlaws_internal_canon_b1.FnReadInlineIgnoresOrderAndEmptyPieces", spec := "fnReadInlineIgnoresOrderAndEmptyPieces", apart := false }
def FnReadInlineIgnoresOrderAndEmptyPiecesSaid : Prop := fnReadInlineIgnoresOrderAndEmptyPiecesRow.holds Try.pinned (OpenSpec.ofChange fnReadInlineIgnoresOrderAndEmptyPiecesSpec)

/-- ITS FALSE NEIGHBOUR: 'it returns false'. Refute it at one input. -/
def fnReadInlineIgnoresOrderAndEmptyPiecesWrong : ChangeSpec := { name := "fnReadInlineIgnoresOrderAndEmptyPieces", fn := fun _ => fun
  | [d] => { results := [.lit (.bool false)], args := [d] }
  | _ => none }
def FnReadInlineIgnoresOrderAndEmptyPiecesWrongFalsely : Prop := fnReadInlineIgnoresOrderAndEmptyPiecesRow.holds Try.pinned (OpenSpec.ofChange fnReadInlineIgnoresOrderAndEmptyPiecesWrong)

end Rows
end Go.Proofs.Qxb6603421a
