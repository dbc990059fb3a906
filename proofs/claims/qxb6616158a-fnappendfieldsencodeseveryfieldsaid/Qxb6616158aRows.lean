/-
  No cell of these rows narrows 'for every input' (looked for: loops, veiled, ifaces, maps, wideKeys, modest, calm, conditions, laid).
  DERIVED. THE GIVEN ROWS OF THIS SEAT. 2 by the template 'for every input the law returns true; each argument reads behind the call as it read before'; 0 by the template 'total and deterministic' (their statements: Qxb6616158aTotals.lean).
  GIVEN WITH THE SEED: the statements are not yours to turn. If you find one false, say at which input.
  Laid BY PROGRAM, IN A SANDBOX (cutbox-rows.mjs): the forced cells as the released guide's own fill.sh prints them over the translation 65d4f26b4ed1a6d0… (all of the seat's roots in one cut). By AI agents, Wed Nov 11 2026. No macro, syntax, notation, axiom, sorry.
-/
import Derived.Test.Qxb6616158aChecked
import GoSem.Claim
import GoSem.ClaimJoined
import GoSem.ClaimMapViews
import Derived.JoinedTies
import Derived.KernelRfl
namespace Go.Proofs.Qxb6616158a
/- THE CELL 'sum', in the pinned program and in every row, IS THE sha256 OF THE DUMP (.gsa) THAT Qxb6616158aProg.lean LOADS. Nothing in Lean hashes anything: it is a label: what it is worth is what the hold of that sum in a sandbox is worth. -/
noncomputable def Try.pinned : Pinned := { name := "qxb6616158a", sum := "65d4f26b4ed1a6d07809853c221b2c88b4c885cecdbf00685d118062c144c9e5", checked := Try.checked }
namespace Rows
def none {H : Type} : Left H := { results := [], args := [] }

/-- 'zzlaws_internal_order_b1.FnAppendFieldsEncodesEveryField': WHATEVER THE INPUT: true; the input reads as it did. -/
def fnAppendFieldsEncodesEveryFieldSpec : ChangeSpec := { name := "fnAppendFieldsEncodesEveryField", fn := fun _ => fun
  | [d1, d2, d3] => { results := [.lit (.bool true)], args := [d1, d2, d3] }
  | _ => none }
def fnAppendFieldsEncodesEveryFieldRow : OpenClaim := { program := "qxb6616158a", sum := "65d4f26b4ed1a6d07809853c221b2c88b4c885cecdbf00685d118062c144c9e5", func := "example.com/lockstep/lockstep/zzlaws_internal_order_b1.FnAppendFieldsEncodesEveryField", spec := "fnAppendFieldsEncodesEveryField", apart := false }
def FnAppendFieldsEncodesEveryFieldSaid : Prop := fnAppendFieldsEncodesEveryFieldRow.holds Try.pinned (OpenSpec.ofChange fnAppendFieldsEncodesEveryFieldSpec)

/-- ITS FALSE NEIGHBOUR: 'it returns false'. Refute it at one input. -/
def fnAppendFieldsEncodesEveryFieldWrong : ChangeSpec := { name := "fnAppendFieldsEncodesEveryField", fn := fun _ => fun
  | [d1, d2, d3] => { results := [.lit (.bool false)], args := [d1, d2, d3] }
  | _ => none }
def FnAppendFieldsEncodesEveryFieldWrongFalsely : Prop := fnAppendFieldsEncodesEveryFieldRow.holds Try.pinned (OpenSpec.ofChange fnAppendFieldsEncodesEveryFieldWrong)

/-- 'zzlaws_internal_order_b1.FnAppendFieldsInjective': WHATEVER THE INPUT: true; the input reads as it did. -/
def fnAppendFieldsInjectiveSpec : ChangeSpec := { name := "fnAppendFieldsInjective", fn := fun _ => fun
  | [d1, d2, d3, d4, d5] => { results := [.lit (.bool true)], args := [d1, d2, d3, d4, d5] }
  | _ => none }
def fnAppendFieldsInjectiveRow : OpenClaim := { program := "qxb6616158a", sum := "65d4f26b4ed1a6d07809853c221b2c88b4c885cecdbf00685d118062c144c9e5", func := "example.com/lockstep/lockstep/zzlaws_internal_order_b1.FnAppendFieldsInjective", spec := "fnAppendFieldsInjective", apart := false }
def FnAppendFieldsInjectiveSaid : Prop := fnAppendFieldsInjectiveRow.holds Try.pinned (OpenSpec.ofChange fnAppendFieldsInjectiveSpec)

/-- ITS FALSE NEIGHBOUR: 'it returns false'. Refute it at one input. -/
def fnAppendFieldsInjectiveWrong : ChangeSpec := { name := "fnAppendFieldsInjective", fn := fun _ => fun
  | [d1, d2, d3, d4, d5] => { results := [.lit (.bool false)], args := [d1, d2, d3, d4, d5] }
  | _ => none }
def FnAppendFieldsInjectiveWrongFalsely : Prop := fnAppendFieldsInjectiveRow.holds Try.pinned (OpenSpec.ofChange fnAppendFieldsInjectiveWrong)

end Rows
end Go.Proofs.Qxb6616158a
