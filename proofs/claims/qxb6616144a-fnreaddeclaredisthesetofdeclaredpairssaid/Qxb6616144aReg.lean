import Derived.Test.Qxb6616144aIter
namespace Go.Proofs.Qxb6616144a
open Go.RowKit Go.Maps Go.Sort Go.Shelf
attribute [local go_sem] Oper.semAt_some

/-- A region that only reads, but for what ends it: in whatever order is drawn. -/
theorem any_quiet {F : Fence} {n : Nat} {P : Program} {md : Region.Mode} {ops : Array Oper} {Q : Exit → Act → World → Prop} (w : World) (Inv : Array Bool → Act → Prop)
    (stuck : ∀ listed a, listed.size = ops.size → Inv listed a → Region.ready md ops listed ≠ [])
    (step : ∀ listed a i, listed.size = ops.size → Inv listed a → i ∈ Region.ready md ops listed →
      wpOpIn F n P ops Q i (fun a' w' => (w' = w ∧ Inv (listed.setIfInBounds i true) a') ∨ (Region.ready md ops (listed.setIfInBounds i true) = [] ∧ Q .normal a' w')) a w) :
    ∀ fuel listed a, listed.size = ops.size → listed.toList.count false ≤ fuel → Inv listed a → wpAnyIn F n P md ops Q fuel listed a w := by
  have unl : ∀ (listed : Array Bool) i, i ∈ Region.ready md ops listed → ∃ h : i < listed.size, listed[i] = false := fun listed i hi => by
    have h0 := (mem_ready.1 hi).1
    rcases Nat.lt_or_ge i listed.size with h | h
    · exact ⟨h, by simpa [Array.getD, h] using h0⟩
    · simp [Array.getD, Nat.not_lt.2 h] at h0
  intro fuel
  induction fuel with
  | zero =>
    intro listed a hs hc hI
    obtain ⟨i, hi⟩ := List.exists_mem_of_ne_nil _ (stuck listed a hs hI)
    obtain ⟨h, e⟩ := unl listed i hi
    have : false ∈ listed.toList := by rw [← e]; simp
    have := List.count_pos_iff.2 this
    omega
  | succ fuel ih =>
    intro listed a hs hc hI
    refine ⟨fun h => absurd h (stuck listed a hs hI), fun i hi => wpOpIn_mono ?_ (step listed a i hs hI hi)⟩
    obtain ⟨h, e⟩ := unl listed i hi
    rintro a' w' (⟨rfl, hI'⟩ | ⟨hr, hQ⟩)
    · refine ih _ _ (by simpa using hs) ?_ hI'
      rw [Array.toList_setIfInBounds, List.count_set (by simpa using h)]
      rw [Array.getElem_toList, e]
      simp only [beq_self_eq_true, if_true, show (true == false) = false from rfl, if_false, Bool.false_eq_true]
      omega
    · exact wpAnyIn_done hr hQ fuel
theorem ready_nil_key {md : Region.Mode} {ops : Array Oper} {listed : Array Bool} (hr : Region.ready md ops listed = []) (hsz : listed.size = ops.size) {i : Nat} {o : Oper} (ho : ops[i]? = some o) (hd : ∀ e ∈ o.after, Region.binds md e = true → listed.getD e.on false = true) : listed.getD i false = true := by
  have hi := (Array.getElem?_eq_some_iff.1 ho).1
  rcases Bool.eq_false_or_eq_true (listed.getD i true) with h | h
  · rw [Array.getD_eq_getD_getElem?, Array.getElem?_eq_getElem (by omega)] at h ⊢
    exact h
  · have := mem_ready.2 ⟨h, o, ho, hd⟩
    rw [hr] at this
    cases this
def findReg (n : Nat) : Code → Option (Array Oper)
  | .region i ops _ => if i = n then some ops else none
  | .seq a b => match findReg n a with
    | some c => some c
    | none => findReg n b
  | .cond _ a b => match findReg n a with
    | some c => some c
    | none => findReg n b
  | .block _ c => findReg n c
  | .loop c => findReg n c
  | .scope c => findReg n c
  | .rangeFunc _ _ a b => match findReg n a with
    | some c => some c
    | none => findReg n b
  | _ => none

/-- What stands in the slots 52 .. 60 of readDeclared's frame when all but the store have run. -/
def vals16 (X g M : Nat) (en evn : ByteArray) : List Value := [.pointer (some ⟨X, 0, none⟩), .pointer (some ⟨X, 0, none⟩), .pointer (some ⟨X, 1, none⟩), .map (some M), .pointer (some ⟨g, 0, none⟩), .string en, .pointer (some ⟨g, 1, none⟩), .string evn, .agg #[.string en, .string evn]]
def Inv16 (X g M : Nat) (en evn : ByteArray) (a : Act) (listed : Array Bool) (a' : Act) : Prop :=
  listed.getD 9 true = false ∧ a'.defers = a.defers ∧ a'.tmps.size = 62 ∧ (∀ s, s < 52 ∨ 60 < s → a'.tmps[s]? = a.tmps[s]?) ∧ ∀ i, i < 9 → listed.getD i false = true → a'.tmps[52 + i]? = (vals16 X g M en evn)[i]?
theorem Inv16.put {X g M : Nat} {en evn : ByteArray} {a a' : Act} {listed : Array Bool} (h : Inv16 X g M en evn a listed a') {i : Nat} (hi : i < 9) {v : Value} (hv : (vals16 X g M en evn)[i]? = some v) : Inv16 X g M en evn a (listed.setIfInBounds i true) (a'.put (some (52 + i)) v) := by
  obtain ⟨h1, h2, h3, h4, h5⟩ := h
  refine ⟨by rw [getD_set_ne true (by omega)]; exact h1, h2, by simpa [Act.put] using h3, fun s hs => ?_, fun j hj hlj => ?_⟩
  · show (a'.tmps.setIfInBounds _ _)[s]? = _
    rw [Array.getElem?_setIfInBounds, if_neg (by omega)]
    exact h4 s hs
  · show (a'.tmps.setIfInBounds _ _)[_]? = _
    by_cases e : j = i
    · subst e
      rw [Array.getElem?_setIfInBounds, if_pos rfl, if_pos (by omega), hv]
    · rw [Array.getElem?_setIfInBounds, if_neg (by omega)]
      rw [getD_set_ne false (by omega)] at hlj
      exact h5 j hj hlj
theorem Inv16.eval {X g M : Nat} {en evn : ByteArray} {a a' : Act} {listed : Array Bool} (h : Inv16 X g M en evn a listed a') {i : Nat} (hi : i < 9) (hl : listed.getD i false = true) {v : Value} (hv : (vals16 X g M en evn)[i]? = some v) : a'.tmps[52 + i]? = some v := (h.2.2.2.2 i hi hl).trans hv
theorem Inv16.old {X g M : Nat} {en evn : ByteArray} {a a' : Act} {listed : Array Bool} (h : Inv16 X g M en evn a listed a') {s : Nat} (hs : s < 52) {v : Value} (hv : a.tmps[s]? = some v) : a'.tmps[s]? = some v := (h.2.2.2.1 s (.inl hs)).trans hv
theorem wpOpIn_val {F : Fence} {n : Nat} {P : Program} {ops : Array Oper} {Q : Exit → Act → World → Prop} {i : Nat} {o : Oper} {v : Value} {K : Act → World → Prop} {a : Act} {w w' : World} (ho : ops[i]? = some o) (hw : Region.wanted o (yielded ops a.tmps) = true) (hd : ∀ c, o.op ≠ .defer c) (hab : o.about P w a.eval = none)
    (hr : (execOp a.eval o).run P w = .ok (.value v) w') (hk : K (a.put o.dst v) w') : wpOpIn F n P ops Q i K a w := by
  unfold wpOpIn
  rw [ho]
  simp only [hw, if_true]
  refine ⟨fun f hf => (by rw [hab] at hf; cases hf), ?_⟩
  rw [Oper.semAt_plain F _ _ hd, hr]
  exact hk
theorem wpOpIn_skip {F : Fence} {n : Nat} {P : Program} {ops : Array Oper} {Q : Exit → Act → World → Prop} {i : Nat} {o : Oper} {K : Act → World → Prop} {a : Act} {w w' : World} (ho : ops[i]? = some o) (hw : Region.wanted o (yielded ops a.tmps) = true) (hd : ∀ c, o.op ≠ .defer c) (hab : o.about P w a.eval = none)
    (hr : (execOp a.eval o).run P w = .ok .skip w') (hk : K (a.put o.dst undef) w') : wpOpIn F n P ops Q i K a w := by
  unfold wpOpIn
  rw [ho]
  simp only [hw, if_true]
  refine ⟨fun f hf => (by rw [hab] at hf; cases hf), ?_⟩
  rw [Oper.semAt_plain F _ _ hd, hr]
  exact hk
/-- The frame when all have run. -/
def end16 (X g M : Nat) (en evn : ByteArray) (a : Act) : Act := ((((((((a.put (some 52) (.pointer (some ⟨X, 0, none⟩))).put (some 53) (.pointer (some ⟨X, 0, none⟩))).put (some 54) (.pointer (some ⟨X, 1, none⟩))).put (some 55) (.map (some M))).put (some 56) (.pointer (some ⟨g, 0, none⟩))).put (some 57) (.string en)).put (some 58) (.pointer (some ⟨g, 1, none⟩))).put (some 59) (.string evn)).put (some 60) (.agg #[.string en, .string evn])

theorem Inv16.uniq {X g M : Nat} {en evn : ByteArray} {a a1 a2 : Act} {L1 L2 : Array Bool} (h : Inv16 X g M en evn a L1 a1) (k : Inv16 X g M en evn a L2 a2) (h' : ∀ j, j < 9 → L1.getD j false = true) (k' : ∀ j, j < 9 → L2.getD j false = true) : a1 = a2 := by
  have ht : a1.tmps = a2.tmps := by
    apply Array.ext_getElem?
    intro s
    by_cases hb : s < 52 ∨ 60 < s
    · rw [h.2.2.2.1 s hb, k.2.2.2.1 s hb]
    · obtain ⟨i, rfl⟩ : ∃ i, s = 52 + i := ⟨s - 52, by omega⟩
      rw [h.2.2.2.2 i (by omega) (h' i (by omega)), k.2.2.2.2 i (by omega) (k' i (by omega))]
  have hd := h.2.1.trans k.2.1.symm
  cases a1
  cases a2
  simp only at ht hd
  rw [ht, hd]
theorem act16 {X g M : Nat} {en evn : ByteArray} {a a' : Act} {listed : Array Bool} (h : Inv16 X g M en evn a listed a') (hd : ∀ j, j < 9 → listed.getD j false = true) (hs : a.tmps.size = 62) : a' = end16 X g M en evn a := by
  have k0 : Inv16 X g M en evn a (Array.replicate 10 false) a := ⟨by simp, rfl, hs, fun _ _ => rfl, fun i hi hl => by rw [Array.getD_eq_getD_getElem?, Array.getElem?_replicate] at hl; split at hl <;> cases hl⟩
  have k := ((((((((k0.put (i := 0) (by omega) rfl).put (i := 1) (by omega) rfl).put (i := 2) (by omega) rfl).put (i := 3) (by omega) rfl).put (i := 4) (by omega) rfl).put (i := 5) (by omega) rfl).put (i := 6) (by omega) rfl).put (i := 7) (by omega) rfl).put (i := 8) (by omega) rfl
  refine h.uniq k hd fun j hj => ?_
  rcases (by omega : j = 0 ∨ j = 1 ∨ j = 2 ∨ j = 3 ∨ j = 4 ∨ j = 5 ∨ j = 6 ∨ j = 7 ∨ j = 8) with rfl | rfl | rfl | rfl | rfl | rfl | rfl | rfl | rfl <;> rfl

set_option maxRecDepth 100000 in
set_option maxHeartbeats 2000000 in
theorem reg16 (l nF : Nat) (Q : Exit → Act → World → Prop) (a : Act) (Bx X g M : Nat) (en evn : ByteArray) (w w3 : World) (ops : Array Oper) (hops : ((Try.f21.body.bind (findReg 16)).getD #[]) = ops) (hs : a.tmps.size = 62)
    (h2 : a.tmps[2]? = some (.pointer (some ⟨Bx, 0, none⟩))) (h10 : a.tmps[10]? = some (.pointer (some ⟨g, 0, none⟩)))
    (c1 : w.drew.cell? ⟨Bx, 0, none⟩ = some (.pointer (some ⟨X, 0, none⟩))) (c2 : w.drew.cell? ⟨X, 1, none⟩ = some (.map (some M))) (c3 : w.drew.cell? ⟨g, 0, none⟩ = some (.string en)) (c4 : w.drew.cell? ⟨g, 1, none⟩ = some (.string evn))
    (hrun : (Instr.mapUpdate 44 (.map (some M)) (.agg #[.string en, .string evn]) (.bool true)).run Try.prog w.drew = .ok () w3) (hQ : Q .normal (end16 X g M en evn a) w3) :
    (Code.region 16 ops true).wpIn (Fence.wide.inRound l) nF Try.prog Q a w := by
  have hmx : Try.prog.follows .mixedOrders = true := by kernel_rfl
  simp only [Try.f21, findReg, Option.bind_some, Option.getD_some, Nat.reduceEqDiff, if_true, if_false, reduceCtorEq] at hops
  subst hops
  refine wpIn_region_any hmx ?_
  change wpAnyIn _ _ _ _ _ _ _ _ _ w.drew
  refine any_quiet w.drew (Inv16 X g M en evn a) ?stuck ?step _ _ _ (by simp) (by simp) ⟨by simp, rfl, hs, fun _ _ => rfl, fun i hi hl => by rw [Array.getD_eq_getD_getElem?, Array.getElem?_replicate] at hl; split at hl <;> cases hl⟩
  case stuck =>
    intro listed a' hsz hI hr
    have hsz' : listed.size = 10 := hsz
    have t0 := ready_nil_key hr hsz (i := 0) rfl (by simp)
    have t1 := ready_nil_key hr hsz (i := 1) rfl (by simpa [Region.binds] using t0)
    have t2 := ready_nil_key hr hsz (i := 2) rfl (by simpa [Region.binds] using t1)
    have t3 := ready_nil_key hr hsz (i := 3) rfl (by simpa [Region.binds] using t2)
    have t4 := ready_nil_key hr hsz (i := 4) rfl (by simp)
    have t5 := ready_nil_key hr hsz (i := 5) rfl (by simpa [Region.binds] using t4)
    have t6 := ready_nil_key hr hsz (i := 6) rfl (by simp)
    have t7 := ready_nil_key hr hsz (i := 7) rfl (by simpa [Region.binds] using t6)
    have t8 := ready_nil_key hr hsz (i := 8) rfl (by simpa [Region.binds] using And.intro t5 t7)
    have t9 := ready_nil_key hr hsz (i := 9) rfl (fun e he _ => by
      simp at he
      rcases he with rfl | rfl | rfl | rfl | rfl | rfl | rfl | rfl | rfl | rfl | rfl <;> assumption)
    have h9 := hI.1
    rw [Array.getD_eq_getD_getElem?, Array.getElem?_eq_getElem (by omega)] at h9 t9
    rw [Option.getD_some] at h9 t9
    rw [h9] at t9
    cases t9
  case step =>
    intro listed a' i hsz hI hi
    obtain ⟨hun, o, ho, hdeps⟩ := mem_ready.1 hi
    have hi10 : i < 10 := by
      have := (Array.getElem?_eq_some_iff.1 ho).1
      simpa using this
    rcases (by omega : i = 0 ∨ i = 1 ∨ i = 2 ∨ i = 3 ∨ i = 4 ∨ i = 5 ∨ i = 6 ∨ i = 7 ∨ i = 8 ∨ i = 9) with rfl | rfl | rfl | rfl | rfl | rfl | rfl | rfl | rfl | rfl
    · have e2 := hI.old (by omega) h2
      exact wpOpIn_val rfl rfl (fun c h => by cases h) rfl (by simp [go_sem, e2, c1]; try rfl) (.inl ⟨rfl, hI.put (i := 0) (by omega) rfl⟩)
    · simp at ho; subst ho; have e52 := hI.eval (i := 0) (by omega) (by simpa [Region.binds] using hdeps) rfl; simp only [Nat.reduceAdd] at e52
      exact wpOpIn_val rfl rfl (fun c h => by cases h) rfl (by simp [go_sem, e52]; try rfl) (.inl ⟨rfl, hI.put (i := 1) (by omega) rfl⟩)
    · simp at ho; subst ho; have e53 := hI.eval (i := 1) (by omega) (by simpa [Region.binds] using hdeps) rfl; simp only [Nat.reduceAdd] at e53
      exact wpOpIn_val rfl rfl (fun c h => by cases h) rfl (by simp [go_sem, e53]; try rfl) (.inl ⟨rfl, hI.put (i := 2) (by omega) rfl⟩)
    · simp at ho; subst ho; have e54 := hI.eval (i := 2) (by omega) (by simpa [Region.binds] using hdeps) rfl; simp only [Nat.reduceAdd] at e54
      exact wpOpIn_val rfl rfl (fun c h => by cases h) rfl (by simp [go_sem, e54, c2]; try rfl) (.inl ⟨rfl, hI.put (i := 3) (by omega) rfl⟩)
    · have e10 := hI.old (by omega) h10
      exact wpOpIn_val rfl rfl (fun c h => by cases h) rfl (by simp [go_sem, e10]; try rfl) (.inl ⟨rfl, hI.put (i := 4) (by omega) rfl⟩)
    · simp at ho; subst ho; have e56 := hI.eval (i := 4) (by omega) (by simpa [Region.binds] using hdeps) rfl; simp only [Nat.reduceAdd] at e56
      exact wpOpIn_val rfl rfl (fun c h => by cases h) rfl (by simp [go_sem, e56, c3]; try rfl) (.inl ⟨rfl, hI.put (i := 5) (by omega) rfl⟩)
    · have e10 := hI.old (by omega) h10
      exact wpOpIn_val rfl rfl (fun c h => by cases h) rfl (by simp [go_sem, e10]; try rfl) (.inl ⟨rfl, hI.put (i := 6) (by omega) rfl⟩)
    · simp at ho; subst ho; have e58 := hI.eval (i := 6) (by omega) (by simpa [Region.binds] using hdeps) rfl; simp only [Nat.reduceAdd] at e58
      exact wpOpIn_val rfl rfl (fun c h => by cases h) rfl (by simp [go_sem, e58, c4]; try rfl) (.inl ⟨rfl, hI.put (i := 7) (by omega) rfl⟩)
    · simp at ho; subst ho; have hd : listed.getD 5 false = true ∧ listed.getD 7 false = true := (by simpa [Region.binds] using hdeps); have e57 := hI.eval (i := 5) (by omega) hd.1 rfl; have e59 := hI.eval (i := 7) (by omega) hd.2 rfl; simp only [Nat.reduceAdd] at e57 e59
      exact wpOpIn_val rfl rfl (fun c h => by cases h) rfl (by simp [go_sem, e57, e59]; try rfl) (.inl ⟨rfl, hI.put (i := 8) (by omega) rfl⟩)
    · simp at ho
      subst ho
      have hd : ∀ j, j < 9 → listed.getD j false = true := fun j hj => by
        rcases (by omega : j = 0 ∨ j = 1 ∨ j = 2 ∨ j = 3 ∨ j = 4 ∨ j = 5 ∨ j = 6 ∨ j = 7 ∨ j = 8) with rfl | rfl | rfl | rfl | rfl | rfl | rfl | rfl | rfl
        · exact hdeps ⟨0, .phase⟩ (by simp) rfl
        · exact hdeps ⟨1, .phase⟩ (by simp) rfl
        · exact hdeps ⟨2, .phase⟩ (by simp) rfl
        · exact hdeps ⟨3, .phase⟩ (by simp) rfl
        · exact hdeps ⟨4, .phase⟩ (by simp) rfl
        · exact hdeps ⟨5, .phase⟩ (by simp) rfl
        · exact hdeps ⟨6, .phase⟩ (by simp) rfl
        · exact hdeps ⟨7, .phase⟩ (by simp) rfl
        · exact hdeps ⟨8, .phase⟩ (by simp) rfl
      have e55 := hI.eval (i := 3) (by omega) (hd 3 (by omega)) rfl
      have e60 := hI.eval (i := 8) (by omega) (hd 8 (by omega)) rfl
      simp only [Nat.reduceAdd] at e55 e60
      refine wpOpIn_skip (w' := w3) rfl rfl (fun c h => by cases h) rfl (by simp [go_sem, e55, e60, hrun]) (.inr ⟨?_, ?_⟩)
      · rw [List.eq_nil_iff_forall_not_mem]
        intro j hj
        obtain ⟨h1, o', ho', _⟩ := mem_ready.1 hj
        have hj10 : j < 10 := by
          have := (Array.getElem?_eq_some_iff.1 ho').1
          simpa using this
        have hsz' : listed.size = 10 := hsz
        by_cases e : j = 9
        · subst e
          rw [Array.getD_eq_getD_getElem?, Array.getElem?_setIfInBounds, if_pos rfl, if_pos (by omega)] at h1
          cases h1
        · have h2' := hd j (by omega)
          rw [Array.getD_eq_getD_getElem?, Array.getElem?_setIfInBounds, if_neg (by omega)] at h1
          rw [Array.getD_eq_getD_getElem?] at h2'
          rw [Array.getElem?_eq_getElem (by omega)] at h1 h2'
          rw [Option.getD_some] at h1 h2'
          rw [h1] at h2'
          cases h2'
      · have e : a' = end16 X g M en evn a := act16 hI hd hs
        show Q .normal a' w3
        rw [e]
        exact hQ
end Go.Proofs.Qxb6616144a
