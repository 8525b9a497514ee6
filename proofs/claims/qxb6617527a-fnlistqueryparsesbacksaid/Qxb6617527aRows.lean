/-
  No cell of these rows narrows 'for every input' (looked for: loops, veiled, ifaces, maps, wideKeys, modest, calm, conditions, laid).
  DERIVED. THE GIVEN ROWS OF THIS SEAT. 2 by the template 'for every input the law returns true; each argument reads behind the call as it read before'; 0 by the template 'total and deterministic' (their statements: Qxb6617527aTotals.lean).
  GIVEN WITH THE SEED: the statements are not yours to turn. If you find one false, say at which input.
  Laid BY PROGRAM, IN A SANDBOX (cutbox-rows.mjs): the forced cells as the released guide's own fill.sh prints them over the translation 14b608cd30402a0e… (all of the seat's roots in one cut). By AI agents, Wed Nov 11 2026. No macro, syntax, notation, axiom, sorry.
-/
import Derived.Test.Qxb6617527aChecked
import GoSem.Claim
import GoSem.ClaimJoined
import GoSem.ClaimMapViews
import Derived.JoinedTies
import Derived.KernelRfl
namespace Go.Proofs.Qxb6617527a
/- THE CELL 'sum', in the pinned program and in every row, IS THE sha256 OF THE DUMP (.gsa) THAT Qxb6617527aProg.lean LOADS. Nothing in Lean hashes anything: it is a label: what it is worth is what the hold of that sum in a sandbox is worth. -/
noncomputable def Try.pinned : Pinned := { name := "qxb6617527a", sum := "14b608cd30402a0ed054a4080a6d496737d273e29fe0b30ff554be867740750a", checked := Try.checked }
namespace Rows
def none {H : Type} : Left H := { results := [], args := [] }

/-- 'zzlaws_internal_s3_b1.FnListQueryParsesBack': WHATEVER THE INPUT: true; the input reads as it did. -/
def fnListQueryParsesBackSpec : ChangeSpec := { name := "fnListQueryParsesBack", fn := fun _ => fun
  | [d1, d2, d3] => { results := [.lit (.bool true)], args := [d1, d2, d3] }
  | _ => none }
def fnListQueryParsesBackRow : OpenClaim := { program := "qxb6617527a", sum := "14b608cd30402a0ed054a4080a6d496737d273e29fe0b30ff554be867740750a", func := "example.com/holdfast/holdfast/zzlaws_internal_s3_b1.FnListQueryParsesBack", spec := "fnListQueryParsesBack", inPlace := ["internal/abi.NoEscape"], apart := false }
def FnListQueryParsesBackSaid : Prop := fnListQueryParsesBackRow.holds Try.pinned (OpenSpec.ofChange fnListQueryParsesBackSpec)

/-- ITS FALSE NEIGHBOUR: 'it returns false'. Refute it at one input. -/
def fnListQueryParsesBackWrong : ChangeSpec := { name := "fnListQueryParsesBack", fn := fun _ => fun
  | [d1, d2, d3] => { results := [.lit (.bool false)], args := [d1, d2, d3] }
  | _ => none }
def FnListQueryParsesBackWrongFalsely : Prop := fnListQueryParsesBackRow.holds Try.pinned (OpenSpec.ofChange fnListQueryParsesBackWrong)

/-- 'zzlaws_internal_s3_b1.FnListQueryInjective': WHATEVER THE INPUT: true; the input reads as it did. -/
def fnListQueryInjectiveSpec : ChangeSpec := { name := "fnListQueryInjective", fn := fun _ => fun
  | [d1, d2, d3, d4, d5, d6] => { results := [.lit (.bool true)], args := [d1, d2, d3, d4, d5, d6] }
  | _ => none }
def fnListQueryInjectiveRow : OpenClaim := { program := "qxb6617527a", sum := "14b608cd30402a0ed054a4080a6d496737d273e29fe0b30ff554be867740750a", func := "example.com/holdfast/holdfast/zzlaws_internal_s3_b1.FnListQueryInjective", spec := "fnListQueryInjective", inPlace := ["internal/abi.NoEscape"], apart := false }
def FnListQueryInjectiveSaid : Prop := fnListQueryInjectiveRow.holds Try.pinned (OpenSpec.ofChange fnListQueryInjectiveSpec)

/-- ITS FALSE NEIGHBOUR: 'it returns false'. Refute it at one input. -/
def fnListQueryInjectiveWrong : ChangeSpec := { name := "fnListQueryInjective", fn := fun _ => fun
  | [d1, d2, d3, d4, d5, d6] => { results := [.lit (.bool false)], args := [d1, d2, d3, d4, d5, d6] }
  | _ => none }
def FnListQueryInjectiveWrongFalsely : Prop := fnListQueryInjectiveRow.holds Try.pinned (OpenSpec.ofChange fnListQueryInjectiveWrong)

end Rows
end Go.Proofs.Qxb6617527a
