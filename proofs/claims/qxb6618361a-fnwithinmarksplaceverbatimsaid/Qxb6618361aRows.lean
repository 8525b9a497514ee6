/-
  No cell of these rows narrows 'for every input' (looked for: loops, veiled, ifaces, maps, wideKeys, modest, calm, conditions, laid).
  DERIVED. THE GIVEN ROWS OF THIS SEAT. 1 by the template 'for every input the law returns true; each argument reads behind the call as it read before'; 0 by the template 'total and deterministic' (their statements: Qxb6618361aTotals.lean).
  GIVEN WITH THE SEED: the statements are not yours to turn. If you find one false, say at which input.
  Laid BY PROGRAM, IN A SANDBOX (cutbox-rows.mjs): the forced cells as the released guide's own fill.sh prints them over the translation cc8dd1f7601f014a… (all of the seat's roots in one cut). By AI agents, Wed Nov 11 2026. No macro, syntax, notation, axiom, sorry.
-/
import Derived.Test.Qxb6618361aChecked
import GoSem.Claim
import GoSem.ClaimJoined
import GoSem.ClaimMapViews
import Derived.JoinedTies
import Derived.KernelRfl
namespace Go.Proofs.Qxb6618361a
/- THE CELL 'sum', in the pinned program and in every row, IS THE sha256 OF THE DUMP (.gsa) THAT Qxb6618361aProg.lean LOADS. Nothing in Lean hashes anything: it is a label: what it is worth is what the hold of that sum in a sandbox is worth. -/
noncomputable def Try.pinned : Pinned := { name := "qxb6618361a", sum := "cc8dd1f7601f014a76bc22498c1eb062baa02e4b79a761e222d9ead6aeac7e3f", checked := Try.checked }
namespace Rows
def none {H : Type} : Left H := { results := [], args := [] }

/-- 'zzlaws_internal_jsondoc_b1.FnWithinMarksPlaceVerbatim': WHATEVER THE INPUT: true; the input reads as it did. -/
def fnWithinMarksPlaceVerbatimSpec : ChangeSpec := { name := "fnWithinMarksPlaceVerbatim", fn := fun _ => fun
  | [d1, d2] => { results := [.lit (.bool true)], args := [d1, d2] }
  | _ => none }
def fnWithinMarksPlaceVerbatimRow : OpenClaim := { program := "qxb6618361a", sum := "cc8dd1f7601f014a76bc22498c1eb062baa02e4b79a761e222d9ead6aeac7e3f", func := "example.com/tenderbook/tenderbook/zzlaws_internal_jsondoc_b1.FnWithinMarksPlaceVerbatim", spec := "fnWithinMarksPlaceVerbatim", apart := false }
def FnWithinMarksPlaceVerbatimSaid : Prop := fnWithinMarksPlaceVerbatimRow.holds Try.pinned (OpenSpec.ofChange fnWithinMarksPlaceVerbatimSpec)

/-- ITS FALSE NEIGHBOUR: 'it returns false'. Refute it at one input. -/
def fnWithinMarksPlaceVerbatimWrong : ChangeSpec := { name := "fnWithinMarksPlaceVerbatim", fn := fun _ => fun
  | [d1, d2] => { results := [.lit (.bool false)], args := [d1, d2] }
  | _ => none }
def FnWithinMarksPlaceVerbatimWrongFalsely : Prop := fnWithinMarksPlaceVerbatimRow.holds Try.pinned (OpenSpec.ofChange fnWithinMarksPlaceVerbatimWrong)

end Rows
end Go.Proofs.Qxb6618361a
