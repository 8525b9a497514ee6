/-
  No cell of these rows narrows 'for every input' (looked for: loops, veiled, ifaces, maps, wideKeys, modest, calm, conditions, laid).
  DERIVED. THE GIVEN ROWS OF THIS SEAT. 4 by the template 'for every input the law returns true; each argument reads behind the call as it read before'; 0 by the template 'total and deterministic' (their statements: Qxb6617327aTotals.lean).
  GIVEN WITH THE SEED: the statements are not yours to turn. If you find one false, say at which input.
  Laid BY PROGRAM, IN A SANDBOX (cutbox-rows.mjs): the forced cells as the released guide's own fill.sh prints them over the translation f35f5ebf17eaf399… (all of the seat's roots in one cut). By AI agents, Wed Nov 11 2026. No macro, syntax, notation, axiom, sorry.
-/
import Derived.Test.Qxb6617327aChecked
import GoSem.Claim
import GoSem.ClaimJoined
import GoSem.ClaimMapViews
import Derived.JoinedTies
import Derived.KernelRfl
namespace Go.Proofs.Qxb6617327a
/- THE CELL 'sum', in the pinned program and in every row, IS THE sha256 OF THE DUMP (.gsa) THAT Qxb6617327aProg.lean LOADS. Nothing in Lean hashes anything: it is a label: what it is worth is what the hold of that sum in a sandbox is worth. -/
noncomputable def Try.pinned : Pinned := { name := "qxb6617327a", sum := "f35f5ebf17eaf3994432fd894bd67362a15778923abe7afb4f0522098c37c5dd", checked := Try.checked }
namespace Rows
def none {H : Type} : Left H := { results := [], args := [] }

/-- 'zzlaws_expr_b1.FnLeadingIntIsStrtolLowBits': WHATEVER THE INPUT: true; the input reads as it did. -/
def fnLeadingIntIsStrtolLowBitsSpec : ChangeSpec := { name := "fnLeadingIntIsStrtolLowBits", fn := fun _ => fun
  | [d] => { results := [.lit (.bool true)], args := [d] }
  | _ => none }
def fnLeadingIntIsStrtolLowBitsRow : OpenClaim := { program := "qxb6617327a", sum := "f35f5ebf17eaf3994432fd894bd67362a15778923abe7afb4f0522098c37c5dd", func := "example.com/aeolus/aeolus/zzlaws_expr_b1.FnLeadingIntIsStrtolLowBits", spec := "fnLeadingIntIsStrtolLowBits", apart := false }
def FnLeadingIntIsStrtolLowBitsSaid : Prop := fnLeadingIntIsStrtolLowBitsRow.holds Try.pinned (OpenSpec.ofChange fnLeadingIntIsStrtolLowBitsSpec)

/-- ITS FALSE NEIGHBOUR: 'it returns false'. Refute it at one input. -/
def fnLeadingIntIsStrtolLowBitsWrong : ChangeSpec := { name := "fnLeadingIntIsStrtolLowBits", fn := fun _ => fun
  | [d] => { results := [.lit (.bool false)], args := [d] }
  | _ => none }
def FnLeadingIntIsStrtolLowBitsWrongFalsely : Prop := fnLeadingIntIsStrtolLowBitsRow.holds Try.pinned (OpenSpec.ofChange fnLeadingIntIsStrtolLowBitsWrong)

/-- 'zzlaws_expr_b1.FnLeadingIntStopsWhereItsDigitsStop': WHATEVER THE INPUT: true; the input reads as it did. -/
def fnLeadingIntStopsWhereItsDigitsStopSpec : ChangeSpec := { name := "fnLeadingIntStopsWhereItsDigitsStop", fn := fun _ => fun
  | [d1, d2] => { results := [.lit (.bool true)], args := [d1, d2] }
  | _ => none }
def fnLeadingIntStopsWhereItsDigitsStopRow : OpenClaim := { program := "qxb6617327a", sum := "f35f5ebf17eaf3994432fd894bd67362a15778923abe7afb4f0522098c37c5dd", func := "example.com/aeolus/aeolus/zzlaws_expr_b1.FnLeadingIntStopsWhereItsDigitsStop", spec := "fnLeadingIntStopsWhereItsDigitsStop", apart := false }
def FnLeadingIntStopsWhereItsDigitsStopSaid : Prop := fnLeadingIntStopsWhereItsDigitsStopRow.holds Try.pinned (OpenSpec.ofChange fnLeadingIntStopsWhereItsDigitsStopSpec)

/-- ITS FALSE NEIGHBOUR: 'it returns false'. Refute it at one input. -/
def fnLeadingIntStopsWhereItsDigitsStopWrong : ChangeSpec := { name := "fnLeadingIntStopsWhereItsDigitsStop", fn := fun _ => fun
  | [d1, d2] => { results := [.lit (.bool false)], args := [d1, d2] }
  | _ => none }
def FnLeadingIntStopsWhereItsDigitsStopWrongFalsely : Prop := fnLeadingIntStopsWhereItsDigitsStopRow.holds Try.pinned (OpenSpec.ofChange fnLeadingIntStopsWhereItsDigitsStopWrong)

/-- 'zzlaws_expr_b1.FnSubstringKeepsFromTheTail': WHATEVER THE INPUT: true; the input reads as it did. -/
def fnSubstringKeepsFromTheTailSpec : ChangeSpec := { name := "fnSubstringKeepsFromTheTail", fn := fun _ => fun
  | [d1, d2, d3] => { results := [.lit (.bool true)], args := [d1, d2, d3] }
  | _ => none }
def fnSubstringKeepsFromTheTailRow : OpenClaim := { program := "qxb6617327a", sum := "f35f5ebf17eaf3994432fd894bd67362a15778923abe7afb4f0522098c37c5dd", func := "example.com/aeolus/aeolus/zzlaws_expr_b1.FnSubstringKeepsFromTheTail", spec := "fnSubstringKeepsFromTheTail", apart := false }
def FnSubstringKeepsFromTheTailSaid : Prop := fnSubstringKeepsFromTheTailRow.holds Try.pinned (OpenSpec.ofChange fnSubstringKeepsFromTheTailSpec)

/-- ITS FALSE NEIGHBOUR: 'it returns false'. Refute it at one input. -/
def fnSubstringKeepsFromTheTailWrong : ChangeSpec := { name := "fnSubstringKeepsFromTheTail", fn := fun _ => fun
  | [d1, d2, d3] => { results := [.lit (.bool false)], args := [d1, d2, d3] }
  | _ => none }
def FnSubstringKeepsFromTheTailWrongFalsely : Prop := fnSubstringKeepsFromTheTailRow.holds Try.pinned (OpenSpec.ofChange fnSubstringKeepsFromTheTailWrong)

/-- 'zzlaws_expr_b1.FnSubstringSeesNothingOutsideItsPiece': WHATEVER THE INPUT: true; the input reads as it did. -/
def fnSubstringSeesNothingOutsideItsPieceSpec : ChangeSpec := { name := "fnSubstringSeesNothingOutsideItsPiece", fn := fun _ => fun
  | [d1, d2, d3, d4] => { results := [.lit (.bool true)], args := [d1, d2, d3, d4] }
  | _ => none }
def fnSubstringSeesNothingOutsideItsPieceRow : OpenClaim := { program := "qxb6617327a", sum := "f35f5ebf17eaf3994432fd894bd67362a15778923abe7afb4f0522098c37c5dd", func := "example.com/aeolus/aeolus/zzlaws_expr_b1.FnSubstringSeesNothingOutsideItsPiece", spec := "fnSubstringSeesNothingOutsideItsPiece", apart := false }
def FnSubstringSeesNothingOutsideItsPieceSaid : Prop := fnSubstringSeesNothingOutsideItsPieceRow.holds Try.pinned (OpenSpec.ofChange fnSubstringSeesNothingOutsideItsPieceSpec)

/-- ITS FALSE NEIGHBOUR: 'it returns false'. Refute it at one input. -/
def fnSubstringSeesNothingOutsideItsPieceWrong : ChangeSpec := { name := "fnSubstringSeesNothingOutsideItsPiece", fn := fun _ => fun
  | [d1, d2, d3, d4] => { results := [.lit (.bool false)], args := [d1, d2, d3, d4] }
  | _ => none }
def FnSubstringSeesNothingOutsideItsPieceWrongFalsely : Prop := fnSubstringSeesNothingOutsideItsPieceRow.holds Try.pinned (OpenSpec.ofChange fnSubstringSeesNothingOutsideItsPieceWrong)

end Rows
end Go.Proofs.Qxb6617327a
