import Derived.Test.Qxb6616114aDoorIsProof
import Derived.Test.Qxb6616114aDoorLibWalks
namespace Go.Proofs.Qxb6616114aDoor
open Go.ChangeShapes Go.WideShapes Go.ChangeAt Go.RowKit
open Go.ChangeMaps (open_string shut_string)

set_option maxRecDepth 100000 in
theorem agrees_lifted (os : Os) (started : os.Started) (H : Type) (enc : TypeId × Value → H) :
    ReturnsInHanded {} Tryd.checked os 3 .any (fun w args => (Rows.fnIsAgreesWithErrorsIsSpec.pre enc Tryd.prog Tryd.f3 [] false w args ∧ laidMetH Tryd.prog L w) ∧ sizedMet enc Tryd.prog Tryd.f3 (OpenSpec.ofChange Rows.fnIsAgreesWithErrorsIsSpec) false w args)
      (Rows.fnIsAgreesWithErrorsIsSpec.post enc Tryd.prog Tryd.f3 false true false false) := by
  refine returnsInHanded_of_change_and (C := Tryd.checked) (X := fun w _ => laidMetH Tryd.prog L w) (fun _ _ _ hh h => h.of_heap hh) own started (by kernel_rfl) Tryd.func3
    (ChangeSpec.witness_shaped (enc := enc) (C := Tryd.checked) (os := os) (X := fun w _ => laidMetH Tryd.prog L w) false (World.doorLaid Tryd.prog 400 os) #[.int .u64 0, .string ByteArray.empty] 8 rfl (World.shaped_of_RefB (by kernel_rfl) (by kernel_rfl)) (by kernel_rfl) (by kernel_rfl) (by kernel_rfl) (door_met os _)) ?_
  intro W base args ds gs before hval0 hW _ _ hL _
  have hval : ∀ (j : Nat) t v, Tryd.f3.params[j]? = some t → args[j]? = some v → Value.okWide Tryd.prog W .any base t v := hval0
  have hW' := hW
  obtain ⟨p, q, hA0, hV0, rfl, hfz, hnd⟩ := hW
  have hA : DataW.TrodAll enc Tryd.prog W 0 (fun _ => true) true Tryd.f3.params.toList args.toList ds p := hA0
  have hV : DataW.TrodVars enc Tryd.prog W (fun _ => true) [nErr] gs q := hV0
  rw [Tryd.params3] at hA hval
  obtain ⟨v0, v1, d0, d1, p0, p1, rfl, rfl, rfl, h0, h1⟩ := trodAll_two hA
  obtain ⟨c1, rfl, rfl, rfl, w1⟩ := open_int Tryd.underlying22 (hval 0 22 v0 rfl rfl) h0
  obtain ⟨s, rfl, rfl, rfl, hs⟩ := open_string Tryd.underlying9 (hval 1 9 v1 rfl rfl) h1
  obtain ⟨a, ca, ta, hv, hsnt⟩ := of_laid hL
  obtain ⟨rfl, rfl⟩ := hV.unique (vars_read1 enc gErr tErr Tryd.underlying32 hv trivial _)
  clear hA0 hV0 hval0
  have walk : Calls Tryd.prog 3 #[.int .u64 c1, .string s] W fun e w' => e = .returned (.bool true) ∧ Below W.heap.size W w' := by
    by_cases hsz : s.size ≤ 1048576
    · exact agrees_short c1 s a ca ta W hsz hsnt
    · exact agrees_long c1 s W hsz
  refine walk.mono fun e W' ⟨he, hb⟩ => ?_
  subst he
  have hv' := var?_below hb gErr hsnt.pos hv
  refine ⟨_, rfl, _, _, _, [], [], [.cell 0 0], hW', ?_, ?_, ?_, hb.frame _, fun h => by cases h⟩
  · exact trodAll_mk1 (shut_bool Tryd.underlying4 true)
  · exact trodAll_mk2 (shut_int Tryd.underlying22 w1) (shut_string Tryd.underlying9 hs)
  · exact vars_read1 enc gErr tErr Tryd.underlying32 hv' trivial _

theorem agrees_holds : Rows.FnIsAgreesWithErrorsIsSaid :=
  OpenClaim.holds_of_wide 3 Tryd.f3 rfl rfl rfl rfl rfl rfl rfl ⟨rfl, rfl, rfl, rfl, rfl⟩ rfl rfl rfl rfl rfl (by kernel_rfl) Tryd.func3 (by kernel_rfl)
    (of_decide_eq_true (by kernel_rfl)) (by unfold Func.isWrapper; first | (rw [if_pos (by decide +kernel)]; kernel_rfl) | (rw [if_neg (by decide +kernel)]; exact ⟨rfl, rfl⟩))
    (fun os started H enc _ => agrees_lifted os started H enc)
end Go.Proofs.Qxb6616114aDoor
