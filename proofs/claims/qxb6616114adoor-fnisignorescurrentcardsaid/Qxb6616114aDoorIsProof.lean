import Derived.Test.Qxb6616114aDoorRows
import Derived.Test.Qxb6616114aDoorIsWalks
import Derived.ProofKit
import Derived.OpenShut
import Derived.ShutString
import Derived.LaidMore
import Derived.Stop.LaidErr
import Derived.Stop.Joined
import Derived.WalkSmall
namespace Go.Proofs.Qxb6616114aDoor
open Go.ChangeShapes Go.WideShapes Go.ChangeAt Go.RowKit
open Go.ChangeMaps (open_string shut_string)

/-- The variable's name; the name of its value's type: as the given row has them. -/
abbrev nErr : String := Rows.fnIsIgnoresCurrentSpec.vars.headD ""
abbrev nStar : String := match (Rows.laid_example_com_highwater_highwater_client_ErrVersionMismatch : DataW Unit) with
  | .iface t _ => t
  | _ => ""
theorem own : ownKnob Tryd.prog.godebug = none := by kernel_rfl
theorem gErr : Tryd.prog.globalNamed nErr = some 0 := by kernel_rfl
theorem tErr : (Tryd.prog.globals[0]?).map (·.type) = some 32 := by kernel_rfl
theorem cells42 : Tryd.prog.cellsOf 42 = 1 := by kernel_rfl
theorem cells9 : Tryd.prog.cellsOf 9 = 1 := by kernel_rfl
theorem row40 (u : TypeId) (h : Tryd.prog.typeName? 3 u = some nStar) : u = 40 :=
  typeName_ptr_named (nm := "errors.errorString") (by kernel_rfl) (by kernel_rfl) (by decide) u (h.trans (congrArg some (by decide)))

abbrev L : List (String × DataW Unit) := [(nErr, Rows.laid_example_com_highwater_highwater_client_ErrVersionMismatch)]

/-- The door's own heap meets the condition. -/
theorem door_met (os : Os) (args : Array Value) : laidMetH Tryd.prog L ((World.doorLaid Tryd.prog 400 os).forCall (fun _ _ => 0) ⟨#[], args, []⟩).memory :=
  laidMetH_of_parts3 (fuel := 8) (laidMet_of_run' 8 (by kernel_rfl) (by kernel_rfl)) (by kernel_rfl) (by kernel_rfl)

/-- WHAT THE CONDITION GIVES THE WALKS. -/
theorem of_laid {W : World} (h : laidMetH Tryd.prog L W) : ∃ (a : Addr) (ca : Array Value) (ta : TypeId),
    W.var? Tryd.prog nErr = some #[.iface 40 (.pointer (some a))] ∧ Snt a ca ta W := by
  rw [MakeChecks.laidMetH_plain _ _ _ (by kernel_rfl)] at h
  obtain ⟨ps, ⟨g0, t0, cs0, f0, p0, q0, hg0, ht0, hv0, hd0, _, e0⟩, _, hrows⟩ := h
  obtain rfl := Option.some.inj (gErr.symm.trans hg0)
  obtain rfl := Option.some.inj (tErr.symm.trans ht0)
  subst e0
  obtain ⟨l0⟩ := cs0
  have ok0 : ∀ u v, l0 = [.iface u v] → Value.okWide Tryd.prog W .any 0 u v := fun u v e => by
    subst e
    exact (hrows 0 0 (by simp [MemPlace.row])).2 u v (by simpa using World.var?_cell hg0 hv0 0)
  obtain ⟨a, s0, rfl, hc0, hs0, hz0, rfl⟩ := errorString_of_trod Tryd.underlying32 row40 Tryd.underlying40 Tryd.underlying42 rfl rfl Tryd.underlying9 cells42 cells9 hd0 ok0
  obtain ⟨c0, t0, hb0⟩ := (hrows a.block a.off (by simp [MemPlace.row])).1
  exact ⟨a, c0, t0, hv0, by simpa using World.var?_cell gErr hv0 0, hb0⟩

set_option maxRecDepth 100000 in
theorem ignores_lifted (os : Os) (started : os.Started) (H : Type) (enc : TypeId × Value → H) :
    ReturnsInHanded {} Tryd.checked os 4 .any (fun w args => (Rows.fnIsIgnoresCurrentSpec.pre enc Tryd.prog Tryd.f4 [] false w args ∧ laidMetH Tryd.prog L w) ∧ sizedMet enc Tryd.prog Tryd.f4 (OpenSpec.ofChange Rows.fnIsIgnoresCurrentSpec) false w args)
      (Rows.fnIsIgnoresCurrentSpec.post enc Tryd.prog Tryd.f4 false true false false) := by
  refine returnsInHanded_of_change_and (C := Tryd.checked) (X := fun w _ => laidMetH Tryd.prog L w) (fun _ _ _ hh h => h.of_heap hh) own started (by kernel_rfl) Tryd.func4
    (ChangeSpec.witness_shaped (enc := enc) (C := Tryd.checked) (os := os) (X := fun w _ => laidMetH Tryd.prog L w) false (World.doorLaid Tryd.prog 400 os) #[.int .u64 0, .int .u64 0, .string ByteArray.empty] 8 rfl (World.shaped_of_RefB (by kernel_rfl) (by kernel_rfl)) (by kernel_rfl) (by kernel_rfl) (by kernel_rfl) (door_met os _)) ?_
  intro W base args ds gs before hval0 hW _ _ hL _
  have hval : ∀ (j : Nat) t v, Tryd.f4.params[j]? = some t → args[j]? = some v → Value.okWide Tryd.prog W .any base t v := hval0
  have hW' := hW
  obtain ⟨p, q, hA0, hV0, rfl, hfz, hnd⟩ := hW
  have hA : DataW.TrodAll enc Tryd.prog W 0 (fun _ => true) true Tryd.f4.params.toList args.toList ds p := hA0
  have hV : DataW.TrodVars enc Tryd.prog W (fun _ => true) [nErr] gs q := hV0
  rw [Tryd.params4] at hA hval
  obtain ⟨v0, v1, v2, d0, d1, d2, p0, p1, p2, rfl, rfl, rfl, h0, h1, h2⟩ := trodAll_three hA
  obtain ⟨c1, rfl, rfl, rfl, w1⟩ := open_int Tryd.underlying22 (hval 0 22 v0 rfl rfl) h0
  obtain ⟨c2, rfl, rfl, rfl, w2⟩ := open_int Tryd.underlying22 (hval 1 22 v1 rfl rfl) h1
  obtain ⟨s, rfl, rfl, rfl, hs⟩ := open_string Tryd.underlying9 (hval 2 9 v2 rfl rfl) h2
  obtain ⟨a, ca, ta, hv, hsnt⟩ := of_laid hL
  obtain ⟨rfl, rfl⟩ := hV.unique (vars_read1 enc gErr tErr Tryd.underlying32 hv trivial _)
  clear hA0 hV0 hval0
  have walk : Calls Tryd.prog 4 #[.int .u64 c1, .int .u64 c2, .string s] W fun e w' => e = .returned (.bool true) ∧ Below W.heap.size W w' := by
    by_cases hsz : s.size ≤ 1048576
    · exact ignores_short c1 c2 s a ca ta W hsz hsnt
    · exact ignores_long c1 c2 s W hsz
  refine walk.mono fun e W' ⟨he, hb⟩ => ?_
  subst he
  have hv' := var?_below hb gErr hsnt.pos hv
  refine ⟨_, rfl, _, _, _, [], [], [.cell 0 0], hW', ?_, ?_, ?_, hb.frame _, fun h => by cases h⟩
  · exact trodAll_mk1 (shut_bool Tryd.underlying4 true)
  · exact trodAll_mk3 (shut_int Tryd.underlying22 w1) (shut_int Tryd.underlying22 w2) (shut_string Tryd.underlying9 hs)
  · exact vars_read1 enc gErr tErr Tryd.underlying32 hv' trivial _

theorem ignores_holds : Rows.FnIsIgnoresCurrentSaid :=
  OpenClaim.holds_of_wide 4 Tryd.f4 rfl rfl rfl rfl rfl rfl rfl ⟨rfl, rfl, rfl, rfl, rfl⟩ rfl rfl rfl rfl rfl (by kernel_rfl) Tryd.func4 (by kernel_rfl)
    (of_decide_eq_true (by kernel_rfl)) (by unfold Func.isWrapper; first | (rw [if_pos (by decide +kernel)]; kernel_rfl) | (rw [if_neg (by decide +kernel)]; exact ⟨rfl, rfl⟩))
    (fun os started H enc _ => ignores_lifted os started H enc)
end Go.Proofs.Qxb6616114aDoor
