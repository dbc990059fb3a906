import Derived.Test.Qxb6616144aRows
import Derived.Test.Qxb6616144aIns
import Derived.ProofKit
import Derived.OpenShut
import Derived.ShutString
import Derived.Deep.Strs
import Derived.Carry
namespace Go.Proofs.Qxb6616144a
open Go.ChangeShapes Go.WideShapes Go.ChangeAt Go.RowKit
open Go.ChangeMaps (open_string shut_string)

theorem own : ownKnob Try.prog.godebug = none := by kernel_rfl
theorem laidOut : laidOutB Try.prog = true := by kernel_rfl
theorem cells9 : Try.prog.cellsOf 9 = 1 := by kernel_rfl

set_option maxRecDepth 100000 in
/-- A slice of strings that came in, as the walks see it. -/
theorem open_bys {H : Type} {enc : TypeId × Value → H} {W : World} {base : Nat} {v : Value} {d : DataW H} {ps : List MemPlace} (hok : Value.okWide Try.prog W .any base 22 v) (h : DataW.Trod enc Try.prog W 0 (fun _ => true) true 22 v d ps) :
    ∃ (a : Option Addr) (ss : List ByteArray) (cap : Nat), v = .slice a ss.length cap ∧ (a = none → ss = [] ∧ cap = 0) ∧ StrsAt W a ss ∧ ss.length ≤ maxLen := by
  obtain ⟨a0, len, cap, rfl⟩ := okWide_slice Try.underlying22 hok
  obtain ⟨fuel, hf⟩ := h
  rcases Deep.open_strs Try.underlying22 Try.underlying9 cells9 hf with ⟨hcs, _⟩ | ⟨a, len', cap', m, Sx, hcs, _, hl, hm, hmm, hx, hcell⟩
  · simp [Value.cells] at hcs
    obtain ⟨rfl, rfl, rfl⟩ := hcs
    exact ⟨none, [], 0, rfl, fun _ => ⟨rfl, rfl⟩, fun i hi => by simp at hi, by simp⟩
  · simp [Value.cells] at hcs
    obtain ⟨rfl, rfl, rfl⟩ := hcs
    have hlm : len ≤ m := by rw [hmm]; simpa using hl
    refine ⟨some a, (List.range len).map Sx, cap, ?_, ?_, ?_, ?_⟩
    · simp
    · intro h; cases h
    rotate_left
    · simp; omega
    intro i hi
    have hi' : i < len := by simpa using hi
    have hget : ((List.range len).map Sx).getD i ByteArray.empty = Sx i := by simp [List.getD, hi']
    have h0 := (hcell 0 (by omega)).1
    have hi2 := hcell i (by omega)
    obtain ⟨b, off, sp⟩ := a
    cases sp with
    | some s => simp [Addr.add, World.cell?] at h0; split at h0 <;> simp at h0
    | none =>
      have e : (⟨b, off, none⟩ : Addr).add i = ⟨b, off + i, none⟩ := by cases i <;> simp [Addr.add]
      rw [e] at hi2
      exact ⟨b, off, rfl, block_lt_of_cell hi2.1, by rw [hget]; exact hi2.1, by rw [hget]; exact hi2.2⟩

set_option maxRecDepth 100000 in
theorem insert_lifted (os : Os) (started : os.Started) (H : Type) (enc : TypeId × Value → H) :
    ReturnsInHanded {} Try.checked os 3 .any (Rows.fnApprovedByInsertAndRemoveSpec.pre6 enc Try.prog Try.f3 Rows.fnApprovedByInsertAndRemoveRow.domain false) (Rows.fnApprovedByInsertAndRemoveSpec.post enc Try.prog Try.f3 false true false false) := by
  refine returnsInHanded_of_change (C := Try.checked) own started (by kernel_rfl) Try.func3
    (ChangeSpec.witness6 (enc := enc) (C := Try.checked) false ⟨#[], #[.slice none 0 0, .string ByteArray.empty, .int .i64 0], []⟩ 8 (by kernel_rfl) (by kernel_rfl) (by kernel_rfl) (by kernel_rfl)) ?_
  intro W base args ds gs before hval0 hW hcnd _
  have hval : ∀ (j : Nat) t v, Try.f3.params[j]? = some t → args[j]? = some v → Value.okWide Try.prog W .any base t v := hval0
  have hW' := hW
  obtain ⟨p, q, hA0, hV, rfl, hfz, hnd⟩ := hW
  have hA : DataW.TrodAll enc Try.prog W 0 (fun _ => true) true Try.f3.params.toList args.toList ds p := hA0
  rw [Try.params3] at hA hval
  obtain ⟨v0, v1, v2, d0, d1, d2, p0, p1, p2, rfl, rfl, rfl, h0, h1, h2⟩ := trodAll_three hA
  obtain ⟨rfl, rfl⟩ := trodVars_none hV
  obtain ⟨a, ss, cap, rfl, ha, hs, hl⟩ := open_bys (hval 0 22 v0 rfl rfl) h0
  obtain ⟨id, rfl, rfl, rfl, hid⟩ := open_string Try.underlying9 (hval 1 9 v1 rfl rfl) h1
  obtain ⟨k, rfl, rfl, rfl, wk⟩ := open_int Try.underlying3 (hval 2 3 v2 rfl rfl) h2
  clear hA0 hval0
  simp only [List.append_nil] at hW'
  have walk : Calls Try.prog 3 #[.slice a ss.length cap, .string id, .int .i64 k] W fun e w' => e = .returned (.bool true) ∧ Below W.heap.size W w' := by
    by_cases hk : 0 ≤ k ∧ k ≤ ss.length
    · obtain ⟨k0, k1⟩ := hk
      obtain ⟨n, rfl⟩ := Int.eq_ofNat_of_zero_le k0
      exact insert_any a ss cap id n W ha hs hl hid (by omega)
    · exact insert_out a ss cap id k W hs hl hid (by omega)
  refine walk.mono fun e W' ⟨he, hb⟩ => ?_
  subst he
  have hlt : ∀ x ∈ p0, x.block < W.heap.size := fun x hx => by simpa using hW'.lt x hx
  refine ⟨_, rfl, _, _, _, [], p0 ++ ([] ++ []), [], hW', ?_, ?_, rfl, hb.frame _, fun h => by cases h⟩
  · exact trodAll_mk1 (shut_bool Try.underlying4 true)
  · have t0 := Below.trod laidOut (by kernel_rfl) (of_decide_eq_true (by kernel_rfl)) h0 hb hlt
    exact trodAll_mk3 t0 (shut_string Try.underlying9 hid) (shut_int Try.underlying3 wk)

theorem insert_holds : Rows.FnApprovedByInsertAndRemoveSaid :=
  OpenClaim.holds_of_wide 3 Try.f3 rfl rfl rfl rfl rfl rfl rfl ⟨rfl, rfl, rfl, rfl, rfl⟩ rfl rfl rfl rfl rfl (by kernel_rfl) Try.func3 (by kernel_rfl)
    (of_decide_eq_true (by kernel_rfl)) (by unfold Func.isWrapper; first | (rw [if_pos (by decide +kernel)]; kernel_rfl) | (rw [if_neg (by decide +kernel)]; exact ⟨rfl, rfl⟩))
    (fun os started H enc _ => insert_lifted os started H enc)
end Go.Proofs.Qxb6616144a
