/-
  NARROWER THAN 'FOR EVERY INPUT', by the rows' own cells (each row's printed sentence says how): FnIsAgreesWithErrorsIs: ifaces, laid · FnIsIgnoresCurrent: ifaces, laid.
  DERIVED. THE GIVEN ROWS OF THIS SEAT. 2 by the template 'for every input the law returns true; each argument reads behind the call as it read before'; 0 by the template 'total and deterministic' (their statements: Qxb6616114aDoorTotals.lean).
  GIVEN WITH THE SEED: the statements are not yours to turn. If you find one false, say at which input.
  Laid BY PROGRAM, IN A SANDBOX (cutbox-rows.mjs): the forced cells as the released guide's own fill.sh prints them over the translation fa14c5954470903c… (all of the seat's roots in one cut). By AI agents, Wed Nov 11 2026. No macro, syntax, notation, axiom, sorry.
-/
import Derived.Test.Qxb6616114aDoorChecked
import GoSem.Claim
import GoSem.ClaimJoined
import GoSem.ClaimMapViews
import Derived.JoinedTies
import Derived.KernelRfl
namespace Go.Proofs.Qxb6616114aDoor
/- THE CELL 'sum', in the pinned program and in every row, IS THE sha256 OF THE DUMP (.gsa) THAT Qxb6616114aDoorProg.lean LOADS. Nothing in Lean hashes anything: it is a label: what it is worth is what the hold of that sum in a sandbox is worth. -/
noncomputable def Tryd.pinned : Pinned := { name := "qxb6616114adoor", sum := "fa14c5954470903cdb2ea950404321cdf1d3042d9b0defe08ef009f8b0d9fa34", checked := Tryd.checked }
namespace Rows
def none {H : Type} : Left H := { results := [], args := [] }

/- WHAT THE LISTED PACKAGE-LEVEL VARIABLES READ AS WHEN THE CALL BEGINS. Each datum BY PROGRAM (the guide's laid-datum.mjs) off the statement by which the dump's own 'gosem.cut.vars' lays the variable. In a bare row this is a premise. The card (Qxb6616114aDoorCards.lean) ties it to the program's text. -/
def laid_example_com_highwater_highwater_client_ErrVersionMismatch {H : Type} : DataW H := .iface "*errors.errorString" (.ptr (.agg [.lit (.string [118, 101, 114, 115, 105, 111, 110, 32, 109, 105, 115, 109, 97, 116, 99, 104])]))

/-- 'zzlaws_client_b1.FnIsAgreesWithErrorsIs': WHATEVER THE INPUT: true; the input reads as it did. -/
def fnIsAgreesWithErrorsIsSpec : ChangeSpec := { name := "fnIsAgreesWithErrorsIs", vars := ["example.com/highwater/highwater/client.ErrVersionMismatch"], fn := fun _ => fun
  | [d1, d2, g1] => { results := [.lit (.bool true)], args := [d1, d2], vars := [g1] }
  | _ => none }
def fnIsAgreesWithErrorsIsRow : OpenClaim := { program := "qxb6616114adoor", sum := "fa14c5954470903cdb2ea950404321cdf1d3042d9b0defe08ef009f8b0d9fa34", func := "example.com/highwater/highwater/zzlaws_client_b1.FnIsAgreesWithErrorsIs", spec := "fnIsAgreesWithErrorsIs", inPlace := ["internal/reflectlite.TypeOf"], unfollowed := true, recurses := true, named := ["example.com/highwater/highwater/client.ErrVersionMismatch"], ifaces := true, apart := false, laid := [("example.com/highwater/highwater/client.ErrVersionMismatch", laid_example_com_highwater_highwater_client_ErrVersionMismatch)] }
def FnIsAgreesWithErrorsIsSaid : Prop := fnIsAgreesWithErrorsIsRow.holds Tryd.pinned (OpenSpec.ofChange fnIsAgreesWithErrorsIsSpec)

/-- ITS FALSE NEIGHBOUR: 'it returns false'. Refute it at one input. -/
def fnIsAgreesWithErrorsIsWrong : ChangeSpec := { name := "fnIsAgreesWithErrorsIs", vars := ["example.com/highwater/highwater/client.ErrVersionMismatch"], fn := fun _ => fun
  | [d1, d2, g1] => { results := [.lit (.bool false)], args := [d1, d2], vars := [g1] }
  | _ => none }
def FnIsAgreesWithErrorsIsWrongFalsely : Prop := fnIsAgreesWithErrorsIsRow.holds Tryd.pinned (OpenSpec.ofChange fnIsAgreesWithErrorsIsWrong)

/-- 'zzlaws_client_b1.FnIsIgnoresCurrent': WHATEVER THE INPUT: true; the input reads as it did. -/
def fnIsIgnoresCurrentSpec : ChangeSpec := { name := "fnIsIgnoresCurrent", vars := ["example.com/highwater/highwater/client.ErrVersionMismatch"], fn := fun _ => fun
  | [d1, d2, d3, g1] => { results := [.lit (.bool true)], args := [d1, d2, d3], vars := [g1] }
  | _ => none }
def fnIsIgnoresCurrentRow : OpenClaim := { program := "qxb6616114adoor", sum := "fa14c5954470903cdb2ea950404321cdf1d3042d9b0defe08ef009f8b0d9fa34", func := "example.com/highwater/highwater/zzlaws_client_b1.FnIsIgnoresCurrent", spec := "fnIsIgnoresCurrent", named := ["example.com/highwater/highwater/client.ErrVersionMismatch"], ifaces := true, apart := false, laid := [("example.com/highwater/highwater/client.ErrVersionMismatch", laid_example_com_highwater_highwater_client_ErrVersionMismatch)] }
def FnIsIgnoresCurrentSaid : Prop := fnIsIgnoresCurrentRow.holds Tryd.pinned (OpenSpec.ofChange fnIsIgnoresCurrentSpec)

/-- ITS FALSE NEIGHBOUR: 'it returns false'. Refute it at one input. -/
def fnIsIgnoresCurrentWrong : ChangeSpec := { name := "fnIsIgnoresCurrent", vars := ["example.com/highwater/highwater/client.ErrVersionMismatch"], fn := fun _ => fun
  | [d1, d2, d3, g1] => { results := [.lit (.bool false)], args := [d1, d2, d3], vars := [g1] }
  | _ => none }
def FnIsIgnoresCurrentWrongFalsely : Prop := fnIsIgnoresCurrentRow.holds Tryd.pinned (OpenSpec.ofChange fnIsIgnoresCurrentWrong)

end Rows
end Go.Proofs.Qxb6616114aDoor
