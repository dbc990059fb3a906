import Derived.Test.Qxb6616236aFoldW
import Derived.ProofKit
import Derived.OpenShut
import Derived.ShutString
import Derived.Deep.Strs
import Derived.Carry
namespace Go.Proofs.Qxb6616236a
open Go.ChangeShapes Go.WideShapes Go.ChangeAt Go.RowKit

theorem ownF : ownKnob Try.prog.godebug = none := by kernel_rfl
theorem laidOut : laidOutB Try.prog = true := by kernel_rfl
theorem cells9 : Try.prog.cellsOf 9 = 1 := by kernel_rfl
theorem cells3 : Try.prog.cellsOf 3 = 1 := by kernel_rfl

set_option maxRecDepth 100000 in
/-- A slice of strings that came in, as the walks see it. -/
theorem open_strings {H : Type} {enc : TypeId × Value → H} {W : World} {base : Nat} {v : Value} {d : DataW H} {ps : List MemPlace} (hok : Value.okWide Try.prog W .any base 29 v) (h : DataW.Trod enc Try.prog W 0 (fun _ => true) true 29 v d ps) :
    ∃ (a : Option Addr) (ss : List ByteArray) (cap : Nat), v = .slice a ss.length cap ∧ StrsAt W a ss ∧ ss.length ≤ maxLen := by
  obtain ⟨a0, len, cap, rfl⟩ := okWide_slice Try.underlying29 hok
  obtain ⟨fuel, hf⟩ := h
  rcases Deep.open_strs Try.underlying29 Try.underlying9 cells9 hf with ⟨hcs, _⟩ | ⟨a, len', cap', m, Sx, hcs, _, hl, hm, hmm, hx, hcell⟩
  · simp [Value.cells] at hcs
    obtain ⟨rfl, rfl, rfl⟩ := hcs
    exact ⟨none, [], 0, rfl, fun i hi => by simp at hi, by simp⟩
  · simp [Value.cells] at hcs
    obtain ⟨rfl, rfl, rfl⟩ := hcs
    have hlm : len ≤ m := by rw [hmm]; simpa using hl
    refine ⟨some a, (List.range len).map Sx, cap, ?_, ?_, ?_⟩
    · simp
    rotate_left
    · simp; omega
    intro i hi
    have hi' : i < len := by simpa using hi
    have hget : ((List.range len).map Sx).getD i ByteArray.empty = Sx i := by simp [List.getD, hi']
    have h0 := (hcell 0 (by omega)).1
    have hi2 := hcell i (by omega)
    obtain ⟨b, off, sp⟩ := a
    cases sp with
    | some s => simp [Addr.add, World.cell?] at h0; split at h0 <;> simp at h0
    | none =>
      have e : (⟨b, off, none⟩ : Addr).add i = ⟨b, off + i, none⟩ := by cases i <;> simp [Addr.add]
      rw [e] at hi2
      exact ⟨b, off, rfl, block_lt_of_cell hi2.1, by rw [hget]; exact hi2.1, by rw [hget]; exact hi2.2⟩

set_option maxRecDepth 100000 in
/-- A slice of ints that came in. -/
theorem open_numbers {H : Type} {enc : TypeId × Value → H} {W : World} {base : Nat} {v : Value} {d : DataW H} {ps : List MemPlace} (hok : Value.okWide Try.prog W .any base 28 v) (h : DataW.Trod enc Try.prog W 0 (fun _ => true) true 28 v d ps) :
    ∃ (a : Option Addr) (zs : List Int) (cap : Nat), v = .slice a zs.length cap ∧ IntsAt W a zs ∧ zs.length ≤ maxLen := by
  obtain ⟨a0, len, cap, rfl⟩ := okWide_slice Try.underlying28 hok
  obtain ⟨fuel, hf⟩ := h
  rcases Deep.open_slice1 Try.underlying28 cells3 hf with ⟨hcs, _⟩ | ⟨a, len', cap', m, n, V, D, Pl, hcs, _, hl, hm, hmm, hx, hcell⟩
  · simp [Value.cells] at hcs
    obtain ⟨rfl, rfl, rfl⟩ := hcs
    exact ⟨none, [], 0, rfl, fun i hi => by simp at hi, by simp⟩
  · simp [Value.cells] at hcs
    obtain ⟨rfl, rfl, rfl⟩ := hcs
    have hlm : len ≤ m := by rw [hmm]; simpa using hl
    obtain ⟨Z, hZ⟩ := Deep.choose_lt (α := Int) (n := m) (p := fun i z => V i = .int .i64 z) (fun i hi => by
      obtain ⟨z, hz, _⟩ := DataW.trod_int Try.underlying3 (hcell i hi).2
      exact ⟨z, by simpa using hz⟩)
    refine ⟨some a, (List.range len).map Z, cap, ?_, ?_, ?_⟩
    · simp
    rotate_left
    · simp; omega
    intro i hi
    have hi' : i < len := by simpa using hi
    have hget : ((List.range len).map Z).getD i 0 = Z i := by simp [List.getD, hi']
    have h0 := (hcell 0 (by omega)).1
    have hi2 := (hcell i (by omega)).1
    rw [hZ i (by omega)] at hi2
    obtain ⟨b, off, sp⟩ := a
    cases sp with
    | some s => simp [Addr.add, World.cell?] at h0; split at h0 <;> simp at h0
    | none =>
      have e : (⟨b, off, none⟩ : Addr).add i = ⟨b, off + i, none⟩ := by cases i <;> simp [Addr.add]
      rw [e] at hi2
      exact ⟨b, off, rfl, block_lt_of_cell hi2, by rw [hget]; exact hi2⟩

set_option maxRecDepth 100000 in
theorem fold_lifted (os : Os) (started : os.Started) (H : Type) (enc : TypeId × Value → H) :
    ReturnsInHanded {} Try.checked os 4 .any (Rows.fnOutranksFoldKeepsFirstStrongestSpec.pre6 enc Try.prog Try.f4 Rows.fnOutranksFoldKeepsFirstStrongestRow.domain false) (Rows.fnOutranksFoldKeepsFirstStrongestSpec.post enc Try.prog Try.f4 false true false false) := by
  refine returnsInHanded_of_change (C := Try.checked) ownF started (by kernel_rfl) Try.func4
    (ChangeSpec.witness6 (enc := enc) (C := Try.checked) false ⟨#[], #[.slice none 0 0, .slice none 0 0, .slice none 0 0], []⟩ 8 (by kernel_rfl) (by kernel_rfl) (by kernel_rfl) (by kernel_rfl)) ?_
  intro W base args ds gs before hval0 hW hcnd _
  have hval : ∀ (j : Nat) t v, Try.f4.params[j]? = some t → args[j]? = some v → Value.okWide Try.prog W .any base t v := hval0
  have hW' := hW
  obtain ⟨p, q, hA0, hV, rfl, hfz, hnd⟩ := hW
  have hA : DataW.TrodAll enc Try.prog W 0 (fun _ => true) true Try.f4.params.toList args.toList ds p := hA0
  rw [Try.params4] at hA hval
  obtain ⟨v0, v1, v2, d0, d1, d2, p0, p1, p2, rfl, rfl, rfl, h0, h1, h2⟩ := trodAll_three hA
  obtain ⟨rfl, rfl⟩ := trodVars_none hV
  obtain ⟨a1, zs, c1, rfl, hz, l1⟩ := open_numbers (hval 0 28 v0 rfl rfl) h0
  obtain ⟨a2, ss, c2, rfl, hp, l2⟩ := open_strings (hval 1 29 v1 rfl rfl) h1
  obtain ⟨a3, ms, c3, rfl, hm, l3⟩ := open_strings (hval 2 29 v2 rfl rfl) h2
  clear hA0 hval0
  simp only [List.append_nil] at hW'
  refine (fold_any a1 a2 a3 zs ss ms c1 c2 c3 W hz hp hm l1 l2 l3).mono fun e W' ⟨he, hb⟩ => ?_
  subst he
  have hlt0 : ∀ x ∈ p0, x.block < W.heap.size := fun x hx => hW'.lt x (by simp [hx])
  have hlt1 : ∀ x ∈ p1, x.block < W.heap.size := fun x hx => hW'.lt x (by simp [hx])
  have hlt2 : ∀ x ∈ p2, x.block < W.heap.size := fun x hx => hW'.lt x (by simp [hx])
  refine ⟨_, rfl, _, _, _, [], p0 ++ (p1 ++ p2), [], hW', ?_, ?_, rfl, hb.frame _, fun h => by cases h⟩
  · exact trodAll_mk1 (shut_bool Try.underlying4 true)
  · have t0 := Below.trod laidOut (by kernel_rfl) (of_decide_eq_true (by kernel_rfl)) h0 hb hlt0
    have t1 := Below.trod laidOut (by kernel_rfl) (of_decide_eq_true (by kernel_rfl)) h1 hb hlt1
    have t2 := Below.trod laidOut (by kernel_rfl) (of_decide_eq_true (by kernel_rfl)) h2 hb hlt2
    exact trodAll_mk3 t0 t1 t2

theorem fold_holds : Rows.FnOutranksFoldKeepsFirstStrongestSaid :=
  OpenClaim.holds_of_wide 4 Try.f4 rfl rfl rfl rfl rfl rfl rfl ⟨rfl, rfl, rfl, rfl, rfl⟩ rfl rfl rfl rfl rfl (by kernel_rfl) Try.func4 (by kernel_rfl)
    (of_decide_eq_true (by kernel_rfl)) (by unfold Func.isWrapper; first | (rw [if_pos (by decide +kernel)]; kernel_rfl) | (rw [if_neg (by decide +kernel)]; exact ⟨rfl, rfl⟩))
    (fun os started H enc _ => fold_lifted os started H enc)
end Go.Proofs.Qxb6616236a
