/-
  No cell of these rows narrows 'for every input' (looked for: loops, veiled, ifaces, maps, wideKeys, modest, calm, conditions, laid).
  DERIVED. THE GIVEN ROWS OF THIS SEAT. 2 by the template 'for every input the law returns true; each argument reads behind the call as it read before'; 0 by the template 'total and deterministic' (their statements: Qxb6616236aTotals.lean).
  GIVEN WITH THE SEED: the statements are not yours to turn. If you find one false, say at which input.
  Laid BY PROGRAM, IN A SANDBOX (cutbox-rows.mjs): the forced cells as the released guide's own fill.sh prints them over the translation e583220573b16e48… (all of the seat's roots in one cut). By AI agents, Wed Nov 11 2026. No macro, syntax, notation, axiom, sorry.
-/
import Derived.Test.Qxb6616236aChecked
import GoSem.Claim
import GoSem.ClaimJoined
import GoSem.ClaimMapViews
import Derived.JoinedTies
import Derived.KernelRfl
namespace Go.Proofs.Qxb6616236a
/- THE CELL 'sum', in the pinned program and in every row, IS THE sha256 OF THE DUMP (.gsa) THAT Qxb6616236aProg.lean LOADS. Nothing in Lean hashes anything: it is a label: what it is worth is what the hold of that sum in a sandbox is worth. -/
noncomputable def Try.pinned : Pinned := { name := "qxb6616236a", sum := "e583220573b16e48e26df7069436e091dfc82a4c92da2029e80d8625d0578b43", checked := Try.checked }
namespace Rows
def none {H : Type} : Left H := { results := [], args := [] }

/-- 'zzlaws_engine_b1.FnOutranksIsStrictWeakOrderOnActionThenNamed': WHATEVER THE INPUT: true; the input reads as it did. -/
def fnOutranksIsStrictWeakOrderOnActionThenNamedSpec : ChangeSpec := { name := "fnOutranksIsStrictWeakOrderOnActionThenNamed", fn := fun _ => fun
  | [d1, d2, d3, d4, d5, d6] => { results := [.lit (.bool true)], args := [d1, d2, d3, d4, d5, d6] }
  | _ => none }
def fnOutranksIsStrictWeakOrderOnActionThenNamedRow : OpenClaim := { program := "qxb6616236a", sum := "e583220573b16e48e26df7069436e091dfc82a4c92da2029e80d8625d0578b43", func := "example.com/portcullis/portcullis/zzlaws_engine_b1.FnOutranksIsStrictWeakOrderOnActionThenNamed", spec := "fnOutranksIsStrictWeakOrderOnActionThenNamed", apart := false }
def FnOutranksIsStrictWeakOrderOnActionThenNamedSaid : Prop := fnOutranksIsStrictWeakOrderOnActionThenNamedRow.holds Try.pinned (OpenSpec.ofChange fnOutranksIsStrictWeakOrderOnActionThenNamedSpec)

/-- ITS FALSE NEIGHBOUR: 'it returns false'. Refute it at one input. -/
def fnOutranksIsStrictWeakOrderOnActionThenNamedWrong : ChangeSpec := { name := "fnOutranksIsStrictWeakOrderOnActionThenNamed", fn := fun _ => fun
  | [d1, d2, d3, d4, d5, d6] => { results := [.lit (.bool false)], args := [d1, d2, d3, d4, d5, d6] }
  | _ => none }
def FnOutranksIsStrictWeakOrderOnActionThenNamedWrongFalsely : Prop := fnOutranksIsStrictWeakOrderOnActionThenNamedRow.holds Try.pinned (OpenSpec.ofChange fnOutranksIsStrictWeakOrderOnActionThenNamedWrong)

/-- 'zzlaws_engine_b1.FnOutranksFoldKeepsFirstStrongest': WHATEVER THE INPUT: true; the input reads as it did. -/
def fnOutranksFoldKeepsFirstStrongestSpec : ChangeSpec := { name := "fnOutranksFoldKeepsFirstStrongest", fn := fun _ => fun
  | [d1, d2, d3] => { results := [.lit (.bool true)], args := [d1, d2, d3] }
  | _ => none }
def fnOutranksFoldKeepsFirstStrongestRow : OpenClaim := { program := "qxb6616236a", sum := "e583220573b16e48e26df7069436e091dfc82a4c92da2029e80d8625d0578b43", func := "example.com/portcullis/portcullis/zzlaws_engine_b1.FnOutranksFoldKeepsFirstStrongest", spec := "fnOutranksFoldKeepsFirstStrongest", apart := false }
def FnOutranksFoldKeepsFirstStrongestSaid : Prop := fnOutranksFoldKeepsFirstStrongestRow.holds Try.pinned (OpenSpec.ofChange fnOutranksFoldKeepsFirstStrongestSpec)

/-- ITS FALSE NEIGHBOUR: 'it returns false'. Refute it at one input. -/
def fnOutranksFoldKeepsFirstStrongestWrong : ChangeSpec := { name := "fnOutranksFoldKeepsFirstStrongest", fn := fun _ => fun
  | [d1, d2, d3] => { results := [.lit (.bool false)], args := [d1, d2, d3] }
  | _ => none }
def FnOutranksFoldKeepsFirstStrongestWrongFalsely : Prop := fnOutranksFoldKeepsFirstStrongestRow.holds Try.pinned (OpenSpec.ofChange fnOutranksFoldKeepsFirstStrongestWrong)

end Rows
end Go.Proofs.Qxb6616236a
