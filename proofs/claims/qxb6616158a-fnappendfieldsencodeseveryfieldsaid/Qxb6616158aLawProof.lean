import Derived.Test.Qxb6616158aOpen
namespace Go.Proofs.Qxb6616158a
open Go.ChangeShapes Go.WideShapes Go.ChangeAt Go.RowKit

theorem own : ownKnob Try.prog.godebug = none := by kernel_rfl
theorem laidOut : laidOutB Try.prog = true := by kernel_rfl

set_option maxRecDepth 100000 in
theorem fields_lifted (os : Os) (started : os.Started) (H : Type) (enc : TypeId × Value → H) :
    ReturnsInHanded {} Try.checked os 3 .any (Rows.fnAppendFieldsEncodesEveryFieldSpec.pre6 enc Try.prog Try.f3 Rows.fnAppendFieldsEncodesEveryFieldRow.domain false) (Rows.fnAppendFieldsEncodesEveryFieldSpec.post enc Try.prog Try.f3 false true false false) := by
  refine returnsInHanded_of_change (C := Try.checked) own started (by kernel_rfl) Try.func3
    (ChangeSpec.witness6 (enc := enc) (C := Try.checked) false ⟨#[], #[.agg #[.int .u64 0, .int .u64 0, .int .u64 0, .int .u64 0, .int .u64 0, .slice none 0 0, .slice none 0 0, .int .u64 0, .int .u64 0, .pointer none, .int .u64 0, .int .u64 0, .int .u64 0], .slice none 0 0, .int .u64 0], []⟩ 8 (by kernel_rfl) (by kernel_rfl) (by kernel_rfl) (by kernel_rfl)) ?_
  intro W base args ds gs before hval0 hW hcnd _
  have hval : ∀ (j : Nat) t v, Try.f3.params[j]? = some t → args[j]? = some v → Value.okWide Try.prog W .any base t v := hval0
  have hW' := hW
  obtain ⟨p, q, hA0, hV, rfl, hfz, hnd⟩ := hW
  have hA : DataW.TrodAll enc Try.prog W 0 (fun _ => true) true Try.f3.params.toList args.toList ds p := hA0
  rw [Try.params3] at hA hval
  obtain ⟨v0, v1, v2, d0, d1, d2, p0, p1, p2, rfl, rfl, rfl, h0, h1, h2⟩ := trodAll_three hA
  obtain ⟨rfl, rfl⟩ := trodVars_none hV
  obtain ⟨arr, rfl, _⟩ := okWide_struct Try.underlying27 (hval 0 27 v0 rfl rfl)
  obtain ⟨ab', lb, cb, rfl⟩ := okWide_slice Try.underlying28 (hval 1 28 v1 rfl rfl)
  obtain ⟨k, rfl, rfl, rfl, wk⟩ := open_int Try.underlying22 (hval 2 22 v2 rfl rfl) h2
  clear hA0 hval0
  simp only [List.append_nil] at hW'
  have h0' := h0
  have h1' := h1
  obtain ⟨fuel0, g0⟩ := h0
  obtain ⟨fuel1, g1⟩ := h1
  obtain ⟨A, ie, ce, an, cn, ip, eA, hE, hie, hN, han, hC, hwide, hnums⟩ := open_apd g0
  obtain ⟨ab, bs, cb2, eb, hpay, hbl⟩ := open_bytes g1
  have eA' : arr = (apdv A (.slice ie A.entries.length ce) (.slice an A.ends.length cn) (.pointer ip)).toArray := by
    apply Array.toList_inj.1
    simpa [Value.cells] using eA
  simp [Value.cells] at eb
  obtain ⟨rfl, rfl, rfl⟩ := eb
  subst eA'
  have walk := law_any A ie ce an cn ip ab' cb bs k W ⟨hE, hie, hN, han, hC, hpay.bytes (Nat.le_refl _), hpay.1⟩ hwide hnums hbl
  refine walk.mono fun e W' ⟨he, hb⟩ => ?_
  subst he
  have hlt0 : ∀ x ∈ p0, x.block < W.heap.size := fun x hx => hW'.lt x (by simp [hx])
  have hlt1 : ∀ x ∈ p1, x.block < W.heap.size := fun x hx => hW'.lt x (by simp [hx])
  refine ⟨_, rfl, _, _, _, [], p0 ++ (p1 ++ []), [], hW', ?_, ?_, rfl, hb.frame _, fun h => by cases h⟩
  · exact trodAll_mk1 (shut_bool Try.underlying4 true)
  · have t0 := Below.trod laidOut (by kernel_rfl) (of_decide_eq_true (by kernel_rfl)) h0' hb hlt0
    have t1 := Below.trod laidOut (by kernel_rfl) (of_decide_eq_true (by kernel_rfl)) h1' hb hlt1
    exact trodAll_mk3 t0 t1 (shut_int Try.underlying22 wk)

theorem fields_holds : Rows.FnAppendFieldsEncodesEveryFieldSaid :=
  OpenClaim.holds_of_wide 3 Try.f3 rfl rfl rfl rfl rfl rfl rfl ⟨rfl, rfl, rfl, rfl, rfl⟩ rfl rfl rfl rfl rfl (by kernel_rfl) Try.func3 (by kernel_rfl)
    (of_decide_eq_true (by kernel_rfl)) (by unfold Func.isWrapper; first | (rw [if_pos (by decide +kernel)]; kernel_rfl) | (rw [if_neg (by decide +kernel)]; exact ⟨rfl, rfl⟩))
    (fun os started H enc _ => fields_lifted os started H enc)
end Go.Proofs.Qxb6616158a
