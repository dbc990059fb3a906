import Derived.Test.Qxb6616144aInsProof
import Derived.Test.Qxb6616144aCut
namespace Go.Proofs.Qxb6616144a
open Go.ChangeShapes Go.WideShapes Go.ChangeAt Go.RowKit
open Go.ChangeMaps (open_string shut_string)

set_option maxRecDepth 100000 in
/-- A slice of strings that came in, as the walks see it. -/
theorem open_bysc {H : Type} {enc : TypeId × Value → H} {W : World} {base : Nat} {v : Value} {d : DataW H} {ps : List MemPlace} (hok : Value.okWide Try.prog W .any base 22 v) (h : DataW.Trod enc Try.prog W 0 (fun _ => true) true 22 v d ps) :
    ∃ (a : Option Addr) (ss : List ByteArray) (cap : Nat), v = .slice a ss.length cap ∧ (a = none → ss = [] ∧ cap = 0) ∧ StrsAt W a ss ∧ ss.length ≤ maxLen ∧ ss.length ≤ cap ∧ cap ≤ maxLen ∧ (∀ ad, a = some ad → 0 < cap → ad.spot = none) := by
  obtain ⟨a0, len, cap, rfl⟩ := okWide_slice Try.underlying22 hok
  obtain ⟨fuel, hf⟩ := h
  rcases Deep.open_strs Try.underlying22 Try.underlying9 cells9 hf with ⟨hcs, _⟩ | ⟨a, len', cap', m, Sx, hcs, _, hl, hm, hmm, hx, hcell⟩
  · simp [Value.cells] at hcs
    obtain ⟨rfl, rfl, rfl⟩ := hcs
    exact ⟨none, [], 0, rfl, fun _ => ⟨rfl, rfl⟩, fun i hi => by simp at hi, by simp, by simp, by simp, fun _ h => by cases h⟩
  · simp [Value.cells] at hcs
    obtain ⟨rfl, rfl, rfl⟩ := hcs
    have hlm : len ≤ m := by rw [hmm]; simpa using hl
    refine ⟨some a, (List.range len).map Sx, cap, ?_, ?_, ?_, ?_, ?_, hm, ?_⟩
    · simp
    · intro h; cases h
    rotate_left
    · simp; omega
    · simpa using hl
    · intro ad e hp
      cases e
      have h0 := (hcell 0 (by rw [hmm]; simpa using hp)).1
      obtain ⟨b, off, sp⟩ := a
      cases sp with
      | some s => simp [Addr.add, World.cell?] at h0; split at h0 <;> simp at h0
      | none => rfl
    intro i hi
    have hi' : i < len := by simpa using hi
    have hget : ((List.range len).map Sx).getD i ByteArray.empty = Sx i := by simp [List.getD, hi']
    have h0 := (hcell 0 (by omega)).1
    have hi2 := hcell i (by omega)
    obtain ⟨b, off, sp⟩ := a
    cases sp with
    | some s => simp [Addr.add, World.cell?] at h0; split at h0 <;> simp at h0
    | none =>
      have e : (⟨b, off, none⟩ : Addr).add i = ⟨b, off + i, none⟩ := by cases i <;> simp [Addr.add]
      rw [e] at hi2
      exact ⟨b, off, rfl, block_lt_of_cell hi2.1, by rw [hget]; exact hi2.1, by rw [hget]; exact hi2.2⟩

set_option maxRecDepth 100000 in
theorem cut_lifted (os : Os) (started : os.Started) (H : Type) (enc : TypeId × Value → H) :
    ReturnsInHanded {} Try.checked os 4 .any (Rows.fnApprovedByAnyCutAndEverySignerSpec.pre6 enc Try.prog Try.f4 Rows.fnApprovedByAnyCutAndEverySignerRow.domain false) (Rows.fnApprovedByAnyCutAndEverySignerSpec.post enc Try.prog Try.f4 false true false false) := by
  refine returnsInHanded_of_change (C := Try.checked) own started (by kernel_rfl) Try.func4
    (ChangeSpec.witness6 (enc := enc) (C := Try.checked) false ⟨#[], #[.slice none 0 0, .string ByteArray.empty, .int .i64 0, .int .i64 0], []⟩ 8 (by kernel_rfl) (by kernel_rfl) (by kernel_rfl) (by kernel_rfl)) ?_
  intro W base args ds gs before hval0 hW hcnd _
  have hval : ∀ (j : Nat) t v, Try.f4.params[j]? = some t → args[j]? = some v → Value.okWide Try.prog W .any base t v := hval0
  have hW' := hW
  obtain ⟨p, q, hA0, hV, rfl, hfz, hnd⟩ := hW
  have hA : DataW.TrodAll enc Try.prog W 0 (fun _ => true) true Try.f4.params.toList args.toList ds p := hA0
  rw [Try.params4] at hA hval
  obtain ⟨v0, v1, v2, v3, d0, d1, d2, d3, p0, p1, p2, p3, rfl, rfl, rfl, h0, h1, h2, h3⟩ := trodAll_four hA
  obtain ⟨rfl, rfl⟩ := trodVars_none hV
  obtain ⟨a, ss, cap, rfl, ha, hs, hl, hlc, hcm, hsp⟩ := open_bysc (hval 0 22 v0 rfl rfl) h0
  obtain ⟨id, rfl, rfl, rfl, hid⟩ := open_string Try.underlying9 (hval 1 9 v1 rfl rfl) h1
  obtain ⟨k, rfl, rfl, rfl, wk⟩ := open_int Try.underlying3 (hval 2 3 v2 rfl rfl) h2
  obtain ⟨j, rfl, rfl, rfl, wj⟩ := open_int Try.underlying3 (hval 3 3 v3 rfl rfl) h3
  clear hA0 hval0
  simp only [List.append_nil] at hW'
  have walk : Calls Try.prog 4 #[.slice a ss.length cap, .string id, .int .i64 k, .int .i64 j] W fun e w' => e = .returned (.bool true) ∧ Below W.heap.size W w' := by
    by_cases hk : 0 ≤ k ∧ k ≤ ss.length
    · obtain ⟨k0, k1⟩ := hk
      obtain ⟨n, rfl⟩ := Int.eq_ofNat_of_zero_le k0
      cases a with
      | none =>
        obtain ⟨rfl, rfl⟩ := ha rfl
        obtain rfl : n = 0 := by simp at k1; omega
        exact cut_nil id j W hid
      | some ad =>
        by_cases hc0 : cap = 0
        · subst hc0
          obtain rfl : ss = [] := List.eq_nil_of_length_eq_zero (by omega)
          obtain rfl : n = 0 := by simp at k1; omega
          exact cut_empty ad id j W hid
        · have hs0 := hsp ad rfl (by omega)
          obtain ⟨b, off, sp⟩ := ad
          simp only at hs0
          subst hs0
          exact cut_some b off ss cap id n j W hs hl hlc hcm hid (by omega)
    · exact cut_out a ss cap id k j W hs hl hid (by omega)
  refine walk.mono fun e W' ⟨he, hb⟩ => ?_
  subst he
  have hlt : ∀ x ∈ p0, x.block < W.heap.size := fun x hx => by simpa using hW'.lt x hx
  refine ⟨_, rfl, _, _, _, [], p0 ++ ([] ++ ([] ++ [])), [], hW', ?_, ?_, rfl, hb.frame _, fun h => by cases h⟩
  · exact trodAll_mk1 (shut_bool Try.underlying4 true)
  · have t0 := Below.trod laidOut (by kernel_rfl) (of_decide_eq_true (by kernel_rfl)) h0 hb hlt
    exact trodAll_mk4 t0 (shut_string Try.underlying9 hid) (shut_int Try.underlying3 wk) (shut_int Try.underlying3 wj)

theorem cut_holds : Rows.FnApprovedByAnyCutAndEverySignerSaid :=
  OpenClaim.holds_of_wide 4 Try.f4 rfl rfl rfl rfl rfl rfl rfl ⟨rfl, rfl, rfl, rfl, rfl⟩ rfl rfl rfl rfl rfl (by kernel_rfl) Try.func4 (by kernel_rfl)
    (of_decide_eq_true (by kernel_rfl)) (by unfold Func.isWrapper; first | (rw [if_pos (by decide +kernel)]; kernel_rfl) | (rw [if_neg (by decide +kernel)]; exact ⟨rfl, rfl⟩))
    (fun os started H enc _ => cut_lifted os started H enc)
end Go.Proofs.Qxb6616144a
