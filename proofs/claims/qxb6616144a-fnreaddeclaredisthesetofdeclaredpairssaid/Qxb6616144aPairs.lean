import Derived.Test.Qxb6616144aPolM
namespace Go.Proofs.Qxb6616144a
open Go.RowKit Go.Maps

/-! ### The last index of a key; the pairs of the elements that stand -/
def LI (K : Nat → List UInt8) : Nat → List UInt8 → Option Nat
  | 0, _ => none
  | n + 1, k => if k = K n then some n else LI K n k
def accP (K : Nat → List UInt8) (R : Nat → List Rl) (N : Nat) : Nat → List (ByteArray × ByteArray)
  | 0 => []
  | i + 1 => accP K R N i ++ (if LI K N (K i) = some i then pairs (R i) else [])
def rsum (R : Nat → List Rl) : Nat → Nat
  | 0 => 0
  | n + 1 => rsum R n + (R n).length
theorem rsum_mono (R : Nat → List Rl) {a b : Nat} (h : a ≤ b) : rsum R a ≤ rsum R b := by
  induction b with
  | zero => obtain rfl : a = 0 := by omega
            exact Nat.le_refl _
  | succ b ih =>
    by_cases e : a = b + 1
    · subst e; exact Nat.le_refl _
    · exact Nat.le_trans (ih (by omega)) (Nat.le_add_right _ _)
theorem LI_spec {K : Nat → List UInt8} : ∀ {n : Nat} {k : List UInt8} {i : Nat}, LI K n k = some i → i < n ∧ K i = k
  | 0, _, _, h => by cases h
  | n + 1, k, i, h => by
    unfold LI at h
    split at h
    · rename_i e
      cases h
      exact ⟨Nat.lt_succ_self _, e.symm⟩
    · have := LI_spec h
      exact ⟨by omega, this.2⟩
theorem LI_some {K : Nat → List UInt8} : ∀ {n i : Nat}, i < n → ∃ j, LI K n (K i) = some j
  | 0, i, h => by omega
  | n + 1, i, h => by
    unfold LI
    by_cases e : K i = K n
    · exact ⟨n, by rw [if_pos e]⟩
    · rw [if_neg e]
      exact LI_some (n := n) (by
        rcases Nat.lt_or_ge i n with h' | h'
        · exact h'
        · obtain rfl : i = n := by omega
          exact absurd rfl e)
theorem mem_accP {K : Nat → List UInt8} {R : Nat → List Rl} {N : Nat} {p : ByteArray × ByteArray} : ∀ n, p ∈ accP K R N n ↔ ∃ i, i < n ∧ LI K N (K i) = some i ∧ p ∈ pairs (R i)
  | 0 => by simp [accP]
  | n + 1 => by
    rw [accP, List.mem_append, mem_accP n]
    constructor
    · rintro (⟨i, h1, h2, h3⟩ | h)
      · exact ⟨i, by omega, h2, h3⟩
      · split at h
        · rename_i e
          exact ⟨n, by omega, e, h⟩
        · cases h
    · rintro ⟨i, h1, h2, h3⟩
      by_cases e : i = n
      · subst e
        exact .inr (by rw [if_pos h2]; exact h3)
      · exact .inl ⟨i, by omega, h2, h3⟩
theorem accP_le (K : Nat → List UInt8) (R : Nat → List Rl) (N : Nat) : ∀ n, (accP K R N n).length ≤ rsum R n
  | 0 => Nat.le_refl _
  | n + 1 => by
    have := accP_le K R N n
    rw [accP, List.length_append, rsum]
    split
    · have : (pairs (R n)).length = (R n).length := by simp [pairs]
      omega
    · simp; omega

/-- The rules under a key, by the last index. -/
theorem GK_LI {α : Type} (key : α → List UInt8) (rules : α → List Rl) (l : List α) (d : α) : ∀ n, n ≤ l.length → ∀ k, GK key rules (l.take n) k = (LI (fun i => key (l.getD i d)) n k).map (fun i => rules (l.getD i d))
  | 0, _, k => by simp [LI, GK]
  | n + 1, h, k => by
    rw [take_snoc d (by omega), GK_snoc, LI]
    show (if k = key (l.getD n d) then some (rules (l.getD n d)) else GK key rules (l.take n) k) = _
    split
    · rfl
    · exact GK_LI key rules l d n (by omega) k
theorem mem_all {α : Type} (key : α → List UInt8) (rules : α → List Rl) (l : List α) (d : α) (p : ByteArray × ByteArray) :
    p ∈ accP (fun i => key (l.getD i d)) (fun i => rules (l.getD i d)) l.length l.length ↔ ∃ k rl, GK key rules l k = some rl ∧ p ∈ pairs rl := by
  have hG := GK_LI key rules l d l.length (Nat.le_refl _)
  rw [List.take_length] at hG
  rw [mem_accP]
  constructor
  · rintro ⟨i, h1, h2, h3⟩
    exact ⟨_, _, by rw [hG, h2]; rfl, h3⟩
  · rintro ⟨k, rl, h1, h2⟩
    rw [hG] at h1
    obtain ⟨i, hi, rfl⟩ := Option.map_eq_some_iff.1 h1
    obtain ⟨h3, h4⟩ := LI_spec hi
    exact ⟨i, h3, by rw [h4]; exact hi, h2⟩

/-- The map of last indices, as a datum. -/
def intD (K : Nat → List UInt8) : Nat → DataW Unit
  | 0 => .map []
  | n + 1 => (intD K n).put (.string (K n)) (.lit (.int .i64 n))
theorem intD_map (K : Nat → List UInt8) : ∀ n, IsMap (intD K n)
  | 0 => isMap_empty
  | n + 1 => (intD_map K n).put _ _
theorem intD_at (K : Nat → List UInt8) (k : List UInt8) : ∀ n, (intD K n).atKey (.string k) (.lit (.int .i64 0)) = .lit (.int .i64 (((LI K n k).getD 0 : Nat) : Int))
  | 0 => rfl
  | n + 1 => by
    rw [intD, LI]
    by_cases e : k = K n
    · rw [if_pos e, e, atKey_put_same (intD_map K n) (show WideAt.IsKeyLit (.string (K n)) from trivial)]
      rfl
    · rw [if_neg e, atKey_put_other (fun h => e (by cases h; rfl))]
      exact intD_at K k n

/-! ### Pairs as cells -/
def flat (ps : List (ByteArray × ByteArray)) : List Value := ps.flatMap fun p => [.string p.1, .string p.2]
theorem flat_snoc (ps : List (ByteArray × ByteArray)) (p : ByteArray × ByteArray) : flat (ps ++ [p]) = flat ps ++ [.string p.1, .string p.2] := by simp [flat]
theorem flat_length (ps : List (ByteArray × ByteArray)) : (flat ps).length = ps.length * 2 := by
  induction ps with
  | nil => rfl
  | cons p ps ih =>
    show (.string p.1 :: .string p.2 :: flat ps).length = _
    simp [ih]
    omega
theorem flat_get (d : ByteArray × ByteArray) : ∀ (ps : List (ByteArray × ByteArray)) (i : Nat), i < ps.length → (flat ps)[i * 2]? = some (.string (ps.getD i d).1) ∧ (flat ps)[i * 2 + 1]? = some (.string (ps.getD i d).2)
  | [], i, h => by simp at h
  | p :: ps, 0, _ => ⟨rfl, rfl⟩
  | p :: ps, i + 1, h => by
    have := flat_get d ps i (by simpa using h)
    have e : (i + 1) * 2 = i * 2 + 1 + 1 := by omega
    rw [e]
    exact this
/-- The row of pairs under way. -/
def RowP (w0 : World) (v : Value) (wx : World) (ps : List (ByteArray × ByteArray)) : Prop := wx.ownsRow w0.heap.size 51 2 v ps.length (flat ps) ∧ Below w0.heap.size w0 wx
end Go.Proofs.Qxb6616144a
