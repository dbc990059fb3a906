import Derived.Test.Qxb6616144aRows
import Derived.Test.Qxb6616144aRdOpen
namespace Go.Proofs.Qxb6616144a
open Go.ChangeShapes Go.WideShapes Go.ChangeAt Go.RowKit

theorem ownT : ownKnob Try.prog.godebug = none := by kernel_rfl

set_option maxRecDepth 100000 in
theorem declared_lifted (os : Os) (started : os.Started) (H : Type) (enc : TypeId × Value → H) :
    ReturnsInHanded {} Try.checked os 5 .any (Rows.fnReadDeclaredIsTheSetOfDeclaredPairsSpec.pre6 enc Try.prog Try.f5 Rows.fnReadDeclaredIsTheSetOfDeclaredPairsRow.domain false) (Rows.fnReadDeclaredIsTheSetOfDeclaredPairsSpec.post enc Try.prog Try.f5 false true false false) := by
  refine returnsInHanded_of_change (C := Try.checked) ownT started (by kernel_rfl) Try.func5
    (ChangeSpec.witness6 (enc := enc) (C := Try.checked) false ⟨#[], #[.slice none 0 0, .slice none 0 0, .slice none 0 0], []⟩ 8 (by kernel_rfl) (by kernel_rfl) (by kernel_rfl) (by kernel_rfl)) ?_
  intro W base args ds gs before hval0 hW hcnd _
  have hval : ∀ (j : Nat) t v, Try.f5.params[j]? = some t → args[j]? = some v → Value.okWide Try.prog W .any base t v := hval0
  have hW' := hW
  obtain ⟨p, q, hA0, hV, rfl, hfz, hnd⟩ := hW
  have hA : DataW.TrodAll enc Try.prog W 0 (fun _ => true) true Try.f5.params.toList args.toList ds p := hA0
  rw [Try.params5] at hA hval
  obtain ⟨v0, v1, v2, d0, d1, d2, p0, p1, p2, rfl, rfl, rfl, h0, h1, h2⟩ := trodAll_three hA
  obtain ⟨rfl, rfl⟩ := trodVars_none hV
  obtain ⟨x0, y0, z0, rfl⟩ := okWide_slice Try.underlying37 (hval 0 37 v0 rfl rfl)
  obtain ⟨x1, y1, z1, rfl⟩ := okWide_slice Try.underlying38 (hval 1 38 v1 rfl rfl)
  obtain ⟨x2, y2, z2, rfl⟩ := okWide_slice Try.underlying39 (hval 2 39 v2 rfl rfl)
  clear hA0 hval0
  simp only [List.append_nil] at hW'
  have h0' := h0
  have h1' := h1
  have h2' := h2
  obtain ⟨fuel0, g0⟩ := h0
  obtain ⟨fuel1, g1⟩ := h1
  obtain ⟨fuel2, g2⟩ := h2
  obtain ⟨a1, es, c1, e1, n1, hE, l1⟩ := open_evs g0
  obtain ⟨a2, ss, c2, e2, n2, hS, l2⟩ := open_scs g1
  obtain ⟨a3, us, c3, e3, n3, hU, l3⟩ := open_uns g2
  simp [Value.cells] at e1 e2 e3
  obtain ⟨rfl, rfl, rfl⟩ := e1
  obtain ⟨rfl, rfl, rfl⟩ := e2
  obtain ⟨rfl, rfl, rfl⟩ := e3
  have walk := law5_any x0 x1 x2 es ss us z0 z1 z2 W hE hS hU n1 n2 n3 l1 l2 l3
  refine walk.mono fun e W' ⟨he, hb⟩ => ?_
  subst he
  have hlt0 : ∀ x ∈ p0, x.block < W.heap.size := fun x hx => hW'.lt x (by simp [hx])
  have hlt1 : ∀ x ∈ p1, x.block < W.heap.size := fun x hx => hW'.lt x (by simp [hx])
  have hlt2 : ∀ x ∈ p2, x.block < W.heap.size := fun x hx => hW'.lt x (by simp [hx])
  refine ⟨_, rfl, _, _, _, [], p0 ++ (p1 ++ p2), [], hW', ?_, ?_, rfl, hb.frame _, fun h => by cases h⟩
  · exact trodAll_mk1 (shut_bool Try.underlying4 true)
  · have t0 := Below.trod laidOutT (by kernel_rfl) (of_decide_eq_true (by kernel_rfl)) h0' hb hlt0
    have t1 := Below.trod laidOutT (by kernel_rfl) (of_decide_eq_true (by kernel_rfl)) h1' hb hlt1
    have t2 := Below.trod laidOutT (by kernel_rfl) (of_decide_eq_true (by kernel_rfl)) h2' hb hlt2
    exact trodAll_mk3 t0 t1 t2

theorem declared_holds : Rows.FnReadDeclaredIsTheSetOfDeclaredPairsSaid :=
  OpenClaim.holds_of_wide 5 Try.f5 rfl rfl rfl rfl rfl rfl rfl ⟨rfl, rfl, rfl, rfl, rfl⟩ rfl rfl rfl rfl rfl (by kernel_rfl) Try.func5 (by kernel_rfl)
    (of_decide_eq_true (by kernel_rfl)) (by unfold Func.isWrapper; first | (rw [if_pos (by decide +kernel)]; kernel_rfl) | (rw [if_neg (by decide +kernel)]; exact ⟨rfl, rfl⟩))
    (fun os started H enc _ => declared_lifted os started H enc)
end Go.Proofs.Qxb6616144a
