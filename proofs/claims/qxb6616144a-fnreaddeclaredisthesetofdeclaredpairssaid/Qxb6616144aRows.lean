/-
  No cell of these rows narrows 'for every input' (looked for: loops, veiled, ifaces, maps, wideKeys, modest, calm, conditions, laid).
  DERIVED. THE GIVEN ROWS OF THIS SEAT. 3 by the template 'for every input the law returns true; each argument reads behind the call as it read before'; 0 by the template 'total and deterministic' (their statements: Qxb6616144aTotals.lean).
  GIVEN WITH THE SEED: the statements are not yours to turn. If you find one false, say at which input.
  Laid BY PROGRAM, IN A SANDBOX (cutbox-rows.mjs): the forced cells as the released guide's own fill.sh prints them over the translation ded7b09a0111e7ec… (all of the seat's roots in one cut). By AI agents, Wed Nov 11 2026. No macro, syntax, notation, axiom, sorry.
-/
import Derived.Test.Qxb6616144aChecked
import GoSem.Claim
import GoSem.ClaimJoined
import GoSem.ClaimMapViews
import Derived.JoinedTies
import Derived.KernelRfl
namespace Go.Proofs.Qxb6616144a
/- THE CELL 'sum', in the pinned program and in every row, IS THE sha256 OF THE DUMP (.gsa) THAT Qxb6616144aProg.lean LOADS. Nothing in Lean hashes anything: it is a label: what it is worth is what the hold of that sum in a sandbox is worth. -/
noncomputable def Try.pinned : Pinned := { name := "qxb6616144a", sum := "ded7b09a0111e7ec93ecbc276df03597b87d98052b0a888b0328078bddff4df7", checked := Try.checked }
namespace Rows
def none {H : Type} : Left H := { results := [], args := [] }

/-- 'zzlaws_pkg_policy_b1.FnApprovedByInsertAndRemove': WHATEVER THE INPUT: true; the input reads as it did. -/
def fnApprovedByInsertAndRemoveSpec : ChangeSpec := { name := "fnApprovedByInsertAndRemove", fn := fun _ => fun
  | [d1, d2, d3] => { results := [.lit (.bool true)], args := [d1, d2, d3] }
  | _ => none }
def fnApprovedByInsertAndRemoveRow : OpenClaim := { program := "qxb6616144a", sum := "ded7b09a0111e7ec93ecbc276df03597b87d98052b0a888b0328078bddff4df7", func := "example.com/countersign/countersign/zzlaws_pkg_policy_b1.FnApprovedByInsertAndRemove", spec := "fnApprovedByInsertAndRemove", unfollowed := true, recurses := true, plainKeys := false, apart := false }
def FnApprovedByInsertAndRemoveSaid : Prop := fnApprovedByInsertAndRemoveRow.holds Try.pinned (OpenSpec.ofChange fnApprovedByInsertAndRemoveSpec)

/-- ITS FALSE NEIGHBOUR: 'it returns false'. Refute it at one input. -/
def fnApprovedByInsertAndRemoveWrong : ChangeSpec := { name := "fnApprovedByInsertAndRemove", fn := fun _ => fun
  | [d1, d2, d3] => { results := [.lit (.bool false)], args := [d1, d2, d3] }
  | _ => none }
def FnApprovedByInsertAndRemoveWrongFalsely : Prop := fnApprovedByInsertAndRemoveRow.holds Try.pinned (OpenSpec.ofChange fnApprovedByInsertAndRemoveWrong)

/-- 'zzlaws_pkg_policy_b1.FnApprovedByAnyCutAndEverySigner': WHATEVER THE INPUT: true; the input reads as it did. -/
def fnApprovedByAnyCutAndEverySignerSpec : ChangeSpec := { name := "fnApprovedByAnyCutAndEverySigner", fn := fun _ => fun
  | [d1, d2, d3, d4] => { results := [.lit (.bool true)], args := [d1, d2, d3, d4] }
  | _ => none }
def fnApprovedByAnyCutAndEverySignerRow : OpenClaim := { program := "qxb6616144a", sum := "ded7b09a0111e7ec93ecbc276df03597b87d98052b0a888b0328078bddff4df7", func := "example.com/countersign/countersign/zzlaws_pkg_policy_b1.FnApprovedByAnyCutAndEverySigner", spec := "fnApprovedByAnyCutAndEverySigner", unfollowed := true, recurses := true, plainKeys := false, apart := false }
def FnApprovedByAnyCutAndEverySignerSaid : Prop := fnApprovedByAnyCutAndEverySignerRow.holds Try.pinned (OpenSpec.ofChange fnApprovedByAnyCutAndEverySignerSpec)

/-- ITS FALSE NEIGHBOUR: 'it returns false'. Refute it at one input. -/
def fnApprovedByAnyCutAndEverySignerWrong : ChangeSpec := { name := "fnApprovedByAnyCutAndEverySigner", fn := fun _ => fun
  | [d1, d2, d3, d4] => { results := [.lit (.bool false)], args := [d1, d2, d3, d4] }
  | _ => none }
def FnApprovedByAnyCutAndEverySignerWrongFalsely : Prop := fnApprovedByAnyCutAndEverySignerRow.holds Try.pinned (OpenSpec.ofChange fnApprovedByAnyCutAndEverySignerWrong)

/-- 'zzlaws_pkg_policy_b1.FnReadDeclaredIsTheSetOfDeclaredPairs': WHATEVER THE INPUT: true; the input reads as it did. -/
def fnReadDeclaredIsTheSetOfDeclaredPairsSpec : ChangeSpec := { name := "fnReadDeclaredIsTheSetOfDeclaredPairs", fn := fun _ => fun
  | [d1, d2, d3] => { results := [.lit (.bool true)], args := [d1, d2, d3] }
  | _ => none }
def fnReadDeclaredIsTheSetOfDeclaredPairsRow : OpenClaim := { program := "qxb6616144a", sum := "ded7b09a0111e7ec93ecbc276df03597b87d98052b0a888b0328078bddff4df7", func := "example.com/countersign/countersign/zzlaws_pkg_policy_b1.FnReadDeclaredIsTheSetOfDeclaredPairs", spec := "fnReadDeclaredIsTheSetOfDeclaredPairs", unfollowed := true, recurses := true, plainKeys := false, apart := false }
def FnReadDeclaredIsTheSetOfDeclaredPairsSaid : Prop := fnReadDeclaredIsTheSetOfDeclaredPairsRow.holds Try.pinned (OpenSpec.ofChange fnReadDeclaredIsTheSetOfDeclaredPairsSpec)

/-- ITS FALSE NEIGHBOUR: 'it returns false'. Refute it at one input. -/
def fnReadDeclaredIsTheSetOfDeclaredPairsWrong : ChangeSpec := { name := "fnReadDeclaredIsTheSetOfDeclaredPairs", fn := fun _ => fun
  | [d1, d2, d3] => { results := [.lit (.bool false)], args := [d1, d2, d3] }
  | _ => none }
def FnReadDeclaredIsTheSetOfDeclaredPairsWrongFalsely : Prop := fnReadDeclaredIsTheSetOfDeclaredPairsRow.holds Try.pinned (OpenSpec.ofChange fnReadDeclaredIsTheSetOfDeclaredPairsWrong)

end Rows
end Go.Proofs.Qxb6616144a
