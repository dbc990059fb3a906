import Derived.Test.Qxb6616144aDecl
import Derived.DeepKeys4
import Derived.Maps.OwnIn
import Derived.Sort.KeysCollected
namespace Go.Proofs.Qxb6616144a
open Go.RowKit Go.Maps

/-! ### The keys: strings; pairs of strings -/
theorem keyed9 : Keyed Try.prog 9 := string_keyed Try.underlying9
theorem laidOutT : laidOutB Try.prog = true := by kernel_rfl
theorem row51 : (51 : TypeId) < Try.prog.types.size := of_decide_eq_true (by kernel_rfl)
theorem wide51 : (match Try.prog.underlying 51 with | some (.array _ _) | some (.struct _) => true | _ => false) = true := by rw [Try.underlying51]
set_option maxRecDepth 100000 in
theorem keyed51 : Keyed Try.prog 51 := Keyed.of_law (deep_law_laid laidOutT (m := 2) (by omega) row51 (by kernel_rfl) wide51)
theorem cells51 : Try.prog.cellsOf 51 = 2 := by kernel_rfl
theorem cells9 : Try.prog.cellsOf 9 = 1 := by kernel_rfl
theorem keyT51 : Try.prog.keyType 51 = true := by kernel_rfl
theorem pos_form {a n : Nat} (h : a < n) : ∃ m, n = m + 1 := ⟨n - 1, by omega⟩
theorem size_types : ∃ n, Try.prog.types.size = n + 1 := pos_form row51
theorem keyLits_pair (n : Nat) {a b : ByteArray} (ha : a.size ≤ maxLen) (hb : b.size ≤ maxLen) : Try.prog.keyLits (n + 1 + 1) 51 [.string a, .string b] = some [.string a.data.toList, .string b.data.toList] := by
  have h9 : ∀ {c : ByteArray}, c.size ≤ maxLen → Try.prog.keyLits (n + 1) 9 [.string c] = some [.string c.data.toList] := fun {c} hc => by
    simp only [Program.keyLits, Try.underlying9, hc, if_true]
  unfold Program.keyLits
  simp only [Try.underlying51, cells51, List.length_cons, List.length_nil]
  rw [if_pos ⟨by trivial, by simp⟩]
  simp only [List.mapM_cons, List.mapM_nil, cells9, List.drop_zero, List.drop_succ_cons, List.take_succ_cons, List.take_zero, h9 ha, h9 hb]
  rfl

/-- What a pair reads as, as a key. -/
def pkey (p : ByteArray × ByteArray) : Lit := .string (keyBytes [.string p.1.data.toList, .string p.2.data.toList])
def pval (p : ByteArray × ByteArray) : Value := .agg #[.string p.1, .string p.2]
theorem pkey_lit (p : ByteArray × ByteArray) : WideAt.IsKeyLit (pkey p) := trivial

theorem keyOf_pair {a b : ByteArray} (ha : a.size ≤ maxLen) (hb : b.size ≤ maxLen) : keyOf Try.prog 51 (.agg #[.string a, .string b]) = some (pkey (a, b)) := by
  obtain ⟨n, hn⟩ := size_types
  have f : (Value.agg #[Value.string a, .string b]).formed Try.prog 51 = true := by simp [Value.formed, Try.underlying51, cells51]
  have k := keyLits_pair n ha hb
  rw [← hn] at k
  unfold keyOf
  simp only [Try.underlying51, keyT51, f, Bool.and_self, if_true]
  show (Try.prog.keyLits (Try.prog.types.size + 1) 51 [.string a, .string b]).map _ = _
  rw [k]
  rfl

theorem pkey_inj {p q : ByteArray × ByteArray} (hp : p.1.size ≤ maxLen ∧ p.2.size ≤ maxLen) (hq : q.1.size ≤ maxLen ∧ q.2.size ≤ maxLen) (h : pkey p = pkey q) : p = q := by
  have h1 := keyOf_pair hp.1 hp.2
  have h2 := keyOf_pair hq.1 hq.2
  rw [h] at h1
  have := keyed51.inj h1 h2
  simp at this
  exact Prod.ext this.1 this.2

/-! ### A set as a list of its keys -/
abbrev yes : DataW Unit := .lit (.bool true)
abbrev setP (ps : List (ByteArray × ByteArray)) : DataW Unit := setOf yes (ps.map pkey)
theorem setP_snoc (ps : List (ByteArray × ByteArray)) (p : ByteArray × ByteArray) : setP (ps ++ [p]) = (setP ps).put (pkey p) yes := by
  show setOf yes ((ps ++ [p]).map pkey) = _
  rw [List.map_append, List.map_cons, List.map_nil, setOf_snoc]
theorem isMap_setOf (acc : List Lit) (h : ∀ x ∈ acc, WideAt.IsKeyLit x) : IsMap (setOf yes acc) := (tidy_setOf yes acc h).isMap
theorem lits_pkey (ps : List (ByteArray × ByteArray)) : ∀ x ∈ ps.map pkey, WideAt.IsKeyLit x := fun x hx => by
  obtain ⟨p, _, rfl⟩ := List.mem_map.1 hx
  exact pkey_lit p

theorem atKey_fold (k : Lit) (z : DataW Unit) (hk : WideAt.IsKeyLit k) : ∀ (acc : List Lit) (m : DataW Unit), IsMap m → (k ∈ acc ∨ m.atKey k z = yes) → (acc.foldl (fun m x => m.put x yes) m).atKey k z = yes
  | [], _, _, h => by rcases h with h | h; (· cases h); exact h
  | x :: r, m, hm, h => by
    rw [List.foldl_cons]
    refine atKey_fold k z hk r _ (hm.put x yes) ?_
    by_cases e : k = x
    · subst e
      exact .inr (atKey_put_same hm hk _ _)
    · rcases h with h | h
      · rcases List.mem_cons.1 h with h | h
        · exact absurd h e
        · exact .inl h
      · exact .inr ((atKey_put_other e _ _).trans h)
theorem atKey_setP {ps : List (ByteArray × ByteArray)} {p : ByteArray × ByteArray} (h : p ∈ ps) (z : DataW Unit) : (setP ps).atKey (pkey p) z = yes :=
  atKey_fold _ z (pkey_lit p) _ _ isMap_empty (.inl (List.mem_map.2 ⟨p, h, rfl⟩))

theorem mem_insert_key {x : Lit × DataW Unit} : ∀ {l : List (Lit × DataW Unit)} {p : Lit × DataW Unit}, p ∈ DataW.insert x l → p = x ∨ p ∈ l
  | [], p, h => by simpa [DataW.insert] using h
  | y :: r, p, h => by
    unfold DataW.insert at h
    split at h
    · simpa using h
    · rcases List.mem_cons.1 h with h | h
      · exact .inr (by simp [h])
      · rcases mem_insert_key h with h | h
        · exact .inl h
        · exact .inr (by simp [h])
theorem keys_fold : ∀ (acc : List Lit) (m es : List (Lit × DataW Unit)), acc.foldl (fun m x => m.put x yes) (.map m) = DataW.map es → ∀ p ∈ es, p.1 ∈ acc ∨ p ∈ m
  | [], m, es, h, p, hp => by cases h; exact .inr hp
  | x :: r, m, es, h, p, hp => by
    rw [List.foldl_cons] at h
    rcases keys_fold r _ es h p hp with h1 | h1
    · exact .inl (by simp [h1])
    · rcases mem_insert_key h1 with h2 | h2
      · exact .inl (by simp [h2])
      · exact .inr (List.mem_filter.1 h2).1
theorem keys_setOf (C : List Lit) (es : List (Lit × DataW Unit)) (h : setOf yes C = .map es) (p : Lit × DataW Unit) (hp : p ∈ es) : p.1 ∈ C := by
  rcases keys_fold C [] es h p hp with h | h
  · exact h
  · cases h
/-- Two tidy maps with the same keys are of one size. -/
theorem size_same {A B : List Lit} (hA : ∀ x ∈ A, WideAt.IsKeyLit x) (hB : ∀ x ∈ B, WideAt.IsKeyLit x) (h : ∀ x, x ∈ A ↔ x ∈ B) : Maps.size (setOf yes A) = Maps.size (setOf yes B) := by
  have key : ∀ {C : List Lit}, (∀ x ∈ C, WideAt.IsKeyLit x) → ∃ es : List (Lit × DataW Unit), setOf yes C = .map es ∧ (es.map Prod.fst).Nodup ∧ ∀ x, x ∈ es.map Prod.fst ↔ x ∈ C := by
    intro C hC
    obtain ⟨es, e, hp⟩ := tidy_setOf yes C hC
    have hh : ∀ x, has (setOf yes C) x = C.any (fun y => y.sameKey x) := fun x => has_setOf yes x C hC
    have hk := keys_setOf C es e
    rw [e] at hh
    refine ⟨es, e, List.pairwise_map.2 hp, fun x => ?_⟩
    constructor
    · intro hx
      obtain ⟨p, hp1, rfl⟩ := List.mem_map.1 hx
      exact hk p hp1
    · intro hx
      have := (hh x).trans (List.any_eq_true.2 ⟨x, hx, WideAt.sameKey_self (hC x hx)⟩)
      obtain ⟨p, hp1, hp2⟩ := List.any_eq_true.1 this
      exact List.mem_map.2 ⟨p, hp1, WideAt.sameKey_eq hp2⟩
  obtain ⟨ea, e1, n1, m1⟩ := key hA
  obtain ⟨eb, e2, n2, m2⟩ := key hB
  rw [e1, e2]
  have := ((List.perm_ext_iff_of_nodup n1 n2).2 (fun x => by rw [m1, m2]; exact h x)).length_eq
  simpa [Maps.size] using this

/-! ### The look-up of a bool, at the operation -/
theorem plainElem_bool_inv {H : Type} {P : Program} {e : TypeId} (he : P.underlying e = some .bool) {v : Value} {z : DataW H × List MemPlace} (h : plainElem P e v = some z) : ∃ x, v = .bool x ∧ z = (.lit (.bool x), []) := by
  unfold plainElem at h
  rw [he] at h
  cases v <;> simp at h
  exact ⟨_, rfl, h.symm⟩

theorem wpList_lookup_own_bool {H : Type} {P : Program} (w : World) {ops : Array Oper} {rest : List Oper} {o : Oper} {a : Act} {Q : Exit → Act → World → Prop}
    (hg : o.guard = none) (m x : Operand) (t : TypeId) (hop : o.op = Op.lookup t m x false)
    (k e : TypeId) (K : Keyed P k) (ht : P.underlying t = some (.map k e)) (he : P.underlying e = some .bool) (hz : (zeroValue e).run P w = .ok (.bool false) w) (b n : Nat) (D : DataW H)
    (hm : a.eval m = .map (some b)) (hown : w.ownsMap P k (plainElem P e) b n D) (key : Value) (kl : Lit) (hx : a.eval x = key) (hkey : keyOf P k key = some kl)
    (hK : ∀ c : Bool, D.atKey kl (.lit (.bool false)) = .lit (.bool c) → wpList P ops Q rest (a.put o.dst (.bool c)) w) :
    wpList P ops Q (o :: rest) a w := by
  refine wpList_plain hg fun K' hK' => ?_
  obtain ⟨v, ps, hrun, hv⟩ := hown.lookup K ht hz (plainElem_bool he false) hkey
  obtain ⟨c, rfl, hc⟩ := plainElem_bool_inv he hv
  unfold Oper.wp
  simp [execOp, hop, hm, hx, hrun, Result.andThen]
  exact hK' _ _ (hK c (congrArg Prod.fst hc))
end Go.Proofs.Qxb6616144a
