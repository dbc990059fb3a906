import Derived.Test.Qxb6616236aBase
namespace Go.Proofs.Qxb6616236a

/-- The place of the best of 0 .. k, by the fold. -/
def bIdx (z : Nat → Int) (p : Nat → ByteArray) : Nat → Nat
  | 0 => 0
  | k + 1 => if orank (z (k + 1)) (p (k + 1)) (z (bIdx z p k)) (p (bIdx z p k)) = true then k + 1 else bIdx z p k

theorem bIdx_ok (z : Nat → Int) (p : Nat → ByteArray) (k : Nat) : bIdx z p k ≤ k ∧ (∀ i, i ≤ k → z i ≤ z (bIdx z p k)) ∧ (noName (p (bIdx z p k)) = true → ∀ i, i ≤ k → z i = z (bIdx z p k) → noName (p i) = true) ∧
    ∀ i, i < bIdx z p k → z i = z (bIdx z p k) → noName (p i) ≠ noName (p (bIdx z p k)) := by
  induction k with
  | zero =>
    refine ⟨Nat.le_refl _, fun i hi => ?_, fun h i hi _ => ?_, fun i hi => by simp [bIdx] at hi⟩
    · obtain rfl : i = 0 := by omega
      exact Int.le_refl _
    · obtain rfl : i = 0 := by omega
      exact h
  | succ k ih =>
    obtain ⟨h1, h2, h3, h4⟩ := ih
    unfold bIdx
    generalize bIdx z p k = j at *
    by_cases ho : orank (z (k + 1)) (p (k + 1)) (z j) (p j) = true
    · rw [if_pos ho]
      unfold orank at ho
      simp only [Bool.or_eq_true, Bool.and_eq_true, decide_eq_true_eq, Bool.not_eq_true'] at ho
      rcases ho with ho | ⟨⟨ho, hq⟩, hn⟩
      · refine ⟨Nat.le_refl _, fun i hi => ?_, fun h i hi he => ?_, fun i hi he => ?_⟩
        · by_cases hik : i ≤ k
          · have := h2 i hik; omega
          · obtain rfl : i = k + 1 := by omega
            exact Int.le_refl _
        · by_cases hik : i ≤ k
          · have := h2 i hik; omega
          · obtain rfl : i = k + 1 := by omega
            exact h
        · have := h2 i (by omega); omega
      · refine ⟨Nat.le_refl _, fun i hi => ?_, fun h i hi he => ?_, fun i hi he => ?_⟩
        · by_cases hik : i ≤ k
          · have := h2 i hik; omega
          · obtain rfl : i = k + 1 := by omega
            exact Int.le_refl _
        · rw [hn] at h; cases h
        · rw [hn, h3 hq i (by omega) (by omega)]; simp
    · rw [if_neg ho]
      unfold orank at ho
      simp only [Bool.or_eq_true, Bool.and_eq_true, decide_eq_true_eq, Bool.not_eq_true', not_or] at ho
      obtain ⟨ho1, ho2⟩ := ho
      refine ⟨by omega, fun i hi => ?_, fun h i hi he => ?_, h4⟩
      · by_cases hik : i ≤ k
        · exact h2 i hik
        · obtain rfl : i = k + 1 := by omega
          omega
      · by_cases hik : i ≤ k
        · exact h3 h i hik he
        · obtain rfl : i = k + 1 := by omega
          cases hc : noName (p (k + 1)) with
          | true => rfl
          | false => exact absurd ⟨⟨he, h⟩, hc⟩ ho2

theorem fold_law (z : Nat → Int) (p : Nat → ByteArray) (N : Nat) (hN : 0 < N) (st : Int) (nd : Bool) (idx : Nat) (hs1 : ∀ i, i < N → z i ≤ st) (hs2 : ∃ i, i < N ∧ z i = st)
    (hn1 : nd = true → ∃ i, i < N ∧ z i = st ∧ noName (p i) = false) (hn2 : nd = false → ∀ i, i < N → z i = st → noName (p i) = true)
    (hi : (idx < N ∧ z idx = st ∧ (!noName (p idx)) = nd ∧ ∀ i, i < idx → ¬ (z i = st ∧ (!noName (p i)) = nd)) ∨ (∀ i, i < N → ¬ (z i = st ∧ (!noName (p i)) = nd)) ∧ idx = 0) :
    z (bIdx z p (N - 1)) = st ∧ idx = bIdx z p (N - 1) := by
  obtain ⟨h1, h2, h3, h4⟩ := bIdx_ok z p (N - 1)
  generalize bIdx z p (N - 1) = j at *
  have hj : j < N := by omega
  have hz : z j = st := by
    obtain ⟨i, hi, he⟩ := hs2
    have a := h2 i (by omega)
    have b := hs1 j hj
    omega
  have hb : (!noName (p j)) = nd := by
    cases nd with
    | true =>
      obtain ⟨i, hi, he, hq⟩ := hn1 rfl
      cases hc : noName (p j) with
      | false => rfl
      | true => have := h3 hc i (by omega) (by omega); rw [hq] at this; cases this
    | false => rw [hn2 rfl j hj hz]; rfl
  refine ⟨hz, ?_⟩
  rcases hi with ⟨g1, g2, g3, g4⟩ | ⟨g, _⟩
  · rcases Nat.lt_trichotomy idx j with h | h | h
    · refine absurd ?_ (h4 idx h (by omega))
      have := g3.trans hb.symm
      cases h1 : noName (p idx) <;> cases h2 : noName (p j) <;> simp_all
    · exact h
    · exact absurd ⟨hz, hb⟩ (g4 j h)
  · exact absurd ⟨hz, hb⟩ (g j hj)
end Go.Proofs.Qxb6616236a
