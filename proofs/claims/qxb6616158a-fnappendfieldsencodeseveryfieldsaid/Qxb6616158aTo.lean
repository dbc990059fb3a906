import Derived.Test.Qxb6616158aClone
import Derived.Deep.RegionHeld3
namespace Go.Proofs.Qxb6616158a
open Go.RowKit

/-! ### Cells laid one behind the other -/
def putA (c : Array Value) (o : Nat) : List Value → Array Value
  | [] => c
  | v :: vs => putA (c.setIfInBounds o v) (o + 1) vs
def putW (w : World) (g o : Nat) : List Value → World
  | [] => w
  | v :: vs => putW (w.setCell ⟨g, o, none⟩ v) g (o + 1) vs
theorem cells_free {w : World} {g : Nat} {c : Array Value} {t : TypeId} (h : w.heap[g]? = some (.cells c t (0, 0))) (j : Nat) : w.frozen? ⟨g, j, none⟩ = false := by simp [World.frozen?, h]
theorem cells_setCell {w : World} {g : Nat} {c : Array Value} {t : TypeId} (h : w.heap[g]? = some (.cells c t (0, 0))) (j : Nat) (u : Value) : (w.setCell ⟨g, j, none⟩ u).heap[g]? = some (.cells (c.setIfInBounds j u) t (0, 0)) := by
  have hlt := lt_of_block h
  have h' : w.heap[g] = .cells c t (0, 0) := by simpa [Array.getElem?_eq_getElem hlt] using h
  show (w.heap.modify g _)[g]? = _
  rw [Array.getElem?_eq_getElem (by simpa using hlt), Array.getElem_modify_self, h']
  rfl
theorem putA_size (vs : List Value) : ∀ (c : Array Value) (o : Nat), (putA c o vs).size = c.size := by
  induction vs with
  | nil => intro c o; rfl
  | cons v vs ih => intro c o; simp [putA, ih]
theorem putA_out (vs : List Value) : ∀ (c : Array Value) (o p : Nat), p < o ∨ o + vs.length ≤ p → (putA c o vs)[p]? = c[p]? := by
  induction vs with
  | nil => intro c o p _; rfl
  | cons v vs ih =>
    intro c o p hp
    simp only [List.length_cons] at hp
    rw [putA, ih _ _ _ (by omega), Array.getElem?_setIfInBounds, if_neg (by omega)]
theorem putA_in (vs : List Value) : ∀ (c : Array Value) (o j : Nat), o + vs.length ≤ c.size → j < vs.length → (putA c o vs)[o + j]? = vs[j]? := by
  induction vs with
  | nil => intro c o j _ hj; simp at hj
  | cons v vs ih =>
    intro c o j hc hj
    simp only [List.length_cons] at hc hj
    cases j with
    | zero => rw [putA, putA_out _ _ _ _ (by omega), Array.getElem?_setIfInBounds, if_pos (Nat.add_zero o).symm, if_pos (by omega)]; rfl
    | succ j => rw [putA, show o + (j + 1) = (o + 1) + j by omega, ih _ _ _ (by simpa using by omega) (by omega)]; rfl
theorem putW_block (vs : List Value) : ∀ {w : World} {g : Nat} {c : Array Value} {t : TypeId} (o : Nat), w.heap[g]? = some (.cells c t (0, 0)) → (putW w g o vs).heap[g]? = some (.cells (putA c o vs) t (0, 0)) := by
  induction vs with
  | nil => intro w g c t o h; exact h
  | cons v vs ih => intro w g c t o h; exact ih (o + 1) (cells_setCell h o v)
theorem putW_below (vs : List Value) : ∀ {B g : Nat} {w0 w : World} (o : Nat), Below B w0 w → B ≤ g → Below B w0 (putW w g o vs) := by
  induction vs with
  | nil => intro B g w0 w o h _; exact h
  | cons v vs ih => intro B g w0 w o h hg; exact ih (o + 1) (h.setCell (p := ⟨g, o, none⟩) hg v) hg
theorem putW_other (vs : List Value) : ∀ {w : World} {g k : Nat} (o : Nat), k ≠ g → (putW w g o vs).heap[k]? = w.heap[k]? := by
  induction vs with
  | nil => intro w g k o _; rfl
  | cons v vs ih => intro w g k o h; exact (ih (o + 1) h).trans (Below.heap_setCell w ⟨g, o, none⟩ v k h)
theorem putW_size (vs : List Value) : ∀ {w : World} {g : Nat} (o : Nat), (putW w g o vs).heap.size = w.heap.size := by
  induction vs with
  | nil => intro w g o; rfl
  | cons v vs ih => intro w g o; rw [putW, ih]; simp [World.setCell]

/-! ### Data between two block numbers -/
def Same (lo hi : Nat) (w w' : World) : Prop := ∀ b, lo ≤ b → b < hi → w'.heap[b]? = w.heap[b]?
theorem Same.cell {lo hi : Nat} {w w' : World} (h : Same lo hi w w') {b : Nat} (h1 : lo ≤ b) (h2 : b < hi) (j : Nat) : w'.cell? ⟨b, j, none⟩ = w.cell? ⟨b, j, none⟩ := World.cell?_of_block (w := w) (h b h1 h2)
theorem Same.of_below {lo hi : Nat} {w w' : World} (h : Below hi w w') : Same lo hi w w' := fun b _ hb => h.block b hb
theorem Same.trans {lo hi : Nat} {a b c : World} (h : Same lo hi a b) (k : Same lo hi b c) : Same lo hi a c := fun i h1 h2 => (k i h1 h2).trans (h i h1 h2)
theorem Same.mono {lo hi hi' : Nat} {a b : World} (h : Same lo hi a b) (k : hi' ≤ hi) : Same lo hi' a b := fun i h1 h2 => h i h1 (by omega)

def PayIn (lo hi : Nat) (w : World) (a : Option Addr) (c : Nat) (ps : List Nat) : Prop :=
  (a = none → ps = [] ∧ c = 0) ∧ ∀ i, i < ps.length → ∃ b off, a = some ⟨b, off, none⟩ ∧ lo ≤ b ∧ b < hi ∧ w.cell? ⟨b, off + i, none⟩ = some (.int .u8 ((ps.getD i 0 : Nat) : Int))
theorem PayIn.same {lo hi hi' : Nat} {w w' : World} {a : Option Addr} {c : Nat} {ps : List Nat} (h : PayIn lo hi w a c ps) (k : Same lo hi w w') (hh : hi ≤ hi') : PayIn lo hi' w' a c ps :=
  ⟨h.1, fun i hi => by obtain ⟨b, off, e, h1, h2, hc⟩ := h.2 i hi; exact ⟨b, off, e, h1, by omega, by rw [k.cell h1 h2]; exact hc⟩⟩
theorem PayIn.pay {lo hi : Nat} {w : World} {a : Option Addr} {c : Nat} {ps : List Nat} (h : PayIn lo hi w a c ps) : PayAt hi w a c ps := ⟨h.1, fun i hi => by obtain ⟨b, off, e, _, h2, hc⟩ := h.2 i hi; exact ⟨b, off, e, h2, hc⟩⟩
def EntsIn (lo hi : Nat) (w : World) (a : Option Addr) (es : List Ent) : Prop :=
  ∀ i, i < es.length → ∃ b off ap cp, a = some ⟨b, off, none⟩ ∧ lo ≤ b ∧ b < hi ∧ PayIn lo hi w ap cp (es.getD i ent0).payload ∧
    ∀ j u, (env (es.getD i ent0) (.slice ap (es.getD i ent0).payload.length cp))[j]? = some u → w.cell? ⟨b, off + i * 5 + j, none⟩ = some u
theorem EntsIn.same {lo hi hi' : Nat} {w w' : World} {a : Option Addr} {es : List Ent} (h : EntsIn lo hi w a es) (k : Same lo hi w w') (hh : hi ≤ hi') : EntsIn lo hi' w' a es := fun i hi => by
  obtain ⟨b, off, ap, cp, e, h1, h2, hp, hc⟩ := h i hi
  exact ⟨b, off, ap, cp, e, h1, by omega, hp.same k hh, fun j u hj => by rw [k.cell h1 h2]; exact hc j u hj⟩
theorem EntsIn.at {lo hi : Nat} {w : World} {a : Option Addr} {es : List Ent} (h : EntsIn lo hi w a es) : EntsAt hi w a es := fun i hi => by
  obtain ⟨b, off, ap, cp, e, _, h2, hp, hc⟩ := h i hi
  exact ⟨b, off, ap, cp, e, h2, hp.pay, hc⟩
def EndsIn (lo hi : Nat) (w : World) (a : Option Addr) (es : List Nat) : Prop :=
  ∀ i, i < es.length → ∃ b off, a = some ⟨b, off, none⟩ ∧ lo ≤ b ∧ b < hi ∧ w.cell? ⟨b, off + i, none⟩ = some (.int .u64 ((es.getD i 0 : Nat) : Int))
theorem EndsIn.same {lo hi hi' : Nat} {w w' : World} {a : Option Addr} {es : List Nat} (h : EndsIn lo hi w a es) (k : Same lo hi w w') (hh : hi ≤ hi') : EndsIn lo hi' w' a es := fun i hi => by
  obtain ⟨b, off, e, h1, h2, hc⟩ := h i hi
  exact ⟨b, off, e, h1, by omega, by rw [k.cell h1 h2]; exact hc⟩
theorem EndsIn.at {lo hi : Nat} {w : World} {a : Option Addr} {es : List Nat} (h : EndsIn lo hi w a es) : EndsAt hi w a es := fun i hi => by
  obtain ⟨b, off, e, _, h2, hc⟩ := h i hi
  exact ⟨b, off, e, h2, hc⟩

/-- A row of the call's own, of bytes, of numbers: as the predicates say it. -/
theorem row_cell {w : World} {base e n : Nat} {v : Value} {xs : List Value} (h : w.ownsRow base e 1 v n xs) {a : Option Addr} {c : Nat} (hv : v = .slice a n c) (i : Nat) (hi : i < n) : ∃ b, a = some ⟨b, 0, none⟩ ∧ base ≤ b ∧ b < w.heap.size ∧ w.cell? ⟨b, i, none⟩ = xs[i]? := by
  subst hv
  have h' := h
  obtain ⟨_, h2⟩ := h
  rcases h2 with ⟨h2, h3⟩ | ⟨g, cap, cur, hv, hg, hh, _⟩
  · omega
  · cases hv
    exact ⟨g, rfl, hg, lt_of_block hh, h'.cellAt i (by omega)⟩
theorem row_pay {w : World} {base : Nat} {a : Option Addr} {c : Nat} {ps : List Nat} (ha : a = none → bv ps = [] ∧ c = 0) (h : w.ownsRow base 5 1 (.slice a ps.length c) ps.length (bv ps)) : PayIn base w.heap.size w a c ps := by
  refine ⟨fun e => ⟨by have := (ha e).1; simpa [bv] using this, (ha e).2⟩, fun i hi => ?_⟩
  obtain ⟨b, e, h1, h2, h3⟩ := row_cell h rfl i hi
  exact ⟨b, 0, e, h1, h2, by rw [Nat.zero_add, h3]; simp [bv, List.getD, List.getElem?_eq_getElem hi]⟩
theorem row_ends {w : World} {base : Nat} {a : Option Addr} {c : Nat} {ps : List Nat} (h : w.ownsRow base 22 1 (.slice a ps.length c) ps.length (nv ps)) : EndsIn base w.heap.size w a ps := fun i hi => by
  obtain ⟨b, e, h1, h2, h3⟩ := row_cell h rfl i hi
  exact ⟨b, 0, e, h1, h2, by rw [Nat.zero_add, h3]; simp [nv, List.getD, List.getElem?_eq_getElem hi]⟩

/-- The row of entries, k of them laid. -/
def EFill (G k : Nat) (es : List Ent) (w : World) : Prop :=
  ∃ cur : Array Value, w.heap[G]? = some (.cells cur 56 (0, 0)) ∧ cur.size = es.length * 5 ∧ ∀ i, i < k → ∃ ap cp, PayIn (G + 1) w.heap.size w ap cp (es.getD i ent0).payload ∧
    ∀ j u, (env (es.getD i ent0) (.slice ap (es.getD i ent0).payload.length cp))[j]? = some u → cur[i * 5 + j]? = some u
theorem EFill.cells {G k : Nat} {es : List Ent} {w : World} (h : EFill G k es w) (hk : k < es.length) (j : Nat) (hj : j < 5) : ∃ v, w.cell? ⟨G, k * 5 + j, none⟩ = some v := by
  obtain ⟨cur, h1, h2, _⟩ := h
  have : k * 5 + j < cur.size := by omega
  exact ⟨cur[k * 5 + j], by simp [World.cell?, h1, this]⟩
theorem EFill.free {G k : Nat} {es : List Ent} {w : World} (h : EFill G k es w) (j : Nat) : w.frozen? ⟨G, j, none⟩ = false := by
  obtain ⟨cur, h1, _⟩ := h
  exact cells_free h1 j
theorem EFill.lt {G k : Nat} {es : List Ent} {w : World} (h : EFill G k es w) : G < w.heap.size := by
  obtain ⟨cur, h1, _⟩ := h
  exact lt_of_block h1
/-- Nothing that was there has turned. -/
theorem EFill.below {G k : Nat} {es : List Ent} {w w' : World} (h : EFill G k es w) (hb : Below w.heap.size w w') : EFill G k es w' := by
  have hlt := h.lt
  obtain ⟨cur, h1, h2, h3⟩ := h
  exact ⟨cur, by rw [hb.block G hlt]; exact h1, h2, fun i hi => by
    obtain ⟨ap, cp, hp, hc⟩ := h3 i hi
    exact ⟨ap, cp, hp.same (Same.of_below hb) hb.size, hc⟩⟩
theorem env_length (e : Ent) (p : Value) : (env e p).length = 5 := rfl
theorem EFill.step {G k : Nat} {es : List Ent} {w : World} {e : Ent} {ap : Option Addr} {cp : Nat} (h : EFill G k es w) (hk : k < es.length) (he : es.getD k ent0 = e) (hp : PayIn (G + 1) w.heap.size w ap cp e.payload) :
    EFill G (k + 1) es (putW w G (k * 5) (env e (.slice ap e.payload.length cp))) := by
  obtain ⟨cur, h1, h2, h3⟩ := h
  have hs : ∀ vs : List Value, Same (G + 1) w.heap.size w (putW w G (k * 5) vs) := fun vs b hb _ => putW_other vs _ (by omega)
  refine ⟨_, putW_block _ _ h1, by rw [putA_size]; exact h2, fun i hi => ?_⟩
  by_cases hik : i < k
  · obtain ⟨ap', cp', hp', hc⟩ := h3 i hik
    refine ⟨ap', cp', hp'.same (hs _) (by rw [putW_size]; exact Nat.le_refl _), fun j u hj => ?_⟩
    have hj5 : j < 5 := by
      rcases Nat.lt_or_ge j 5 with h | h
      · exact h
      · rw [List.getElem?_eq_none (by rw [env_length]; exact h)] at hj; cases hj
    rw [putA_out _ _ _ _ (by rw [env_length]; omega)]
    exact hc j u hj
  · obtain rfl : i = k := by omega
    rw [he]
    refine ⟨ap, cp, hp.same (hs _) (by rw [putW_size]; exact Nat.le_refl _), fun j u hj => ?_⟩
    have hj5 : j < 5 := by
      rcases Nat.lt_or_ge j 5 with h | h
      · exact h
      · rw [List.getElem?_eq_none (by rw [env_length]; exact h)] at hj; cases hj
    rw [putA_in _ _ _ _ (by rw [env_length]; omega) (by rw [env_length]; exact hj5)]
    exact hj
theorem EFill.in {G lo : Nat} {es : List Ent} {w : World} (h : EFill G es.length es w) (hlo : lo ≤ G) : EntsIn lo w.heap.size w (some ⟨G, 0, none⟩) es := fun i hi => by
  have hlt := h.lt
  obtain ⟨cur, h1, h2, h3⟩ := h
  obtain ⟨ap, cp, hp, hc⟩ := h3 i hi
  refine ⟨G, 0, ap, cp, rfl, hlo, hlt, ⟨hp.1, fun i hi => by obtain ⟨b, off, e, q1, q2, q3⟩ := hp.2 i hi; exact ⟨b, off, e, by omega, q2, q3⟩⟩, fun j u hj => ?_⟩
  rw [cell_of_row _ _ _ _ _ _ h1, Nat.zero_add]
  exact hc j u hj

/-- The row of members, k of them laid. -/
def MFill (G k : Nat) (ms : List Mbr) (w : World) : Prop :=
  ∃ cur : Array Value, w.heap[G]? = some (.cells cur 61 (0, 0)) ∧ cur.size = ms.length * 4 ∧ ∀ i, i < k → ∀ j u, (mbv (ms.getD i mbr0))[j]? = some u → cur[i * 4 + j]? = some u
theorem MFill.cells {G k : Nat} {es : List Mbr} {w : World} (h : MFill G k es w) (hk : k < es.length) (j : Nat) (hj : j < 4) : ∃ v, w.cell? ⟨G, k * 4 + j, none⟩ = some v := by
  obtain ⟨cur, h1, h2, _⟩ := h
  have : k * 4 + j < cur.size := by omega
  exact ⟨cur[k * 4 + j], by simp [World.cell?, h1, this]⟩
theorem MFill.free {G k : Nat} {es : List Mbr} {w : World} (h : MFill G k es w) (j : Nat) : w.frozen? ⟨G, j, none⟩ = false := by
  obtain ⟨cur, h1, _⟩ := h
  exact cells_free h1 j
theorem MFill.lt {G k : Nat} {es : List Mbr} {w : World} (h : MFill G k es w) : G < w.heap.size := by
  obtain ⟨cur, h1, _⟩ := h
  exact lt_of_block h1
theorem MFill.below {G k : Nat} {es : List Mbr} {w w' : World} (h : MFill G k es w) (hb : Below w.heap.size w w') : MFill G k es w' := by
  have hlt := h.lt
  obtain ⟨cur, h1, h2, h3⟩ := h
  exact ⟨cur, by rw [hb.block G hlt]; exact h1, h2, h3⟩
theorem mbv_length (m : Mbr) : (mbv m).length = 4 := rfl
theorem MFill.step {G k : Nat} {ms : List Mbr} {w : World} {m : Mbr} (h : MFill G k ms w) (hk : k < ms.length) (he : ms.getD k mbr0 = m) : MFill G (k + 1) ms (putW w G (k * 4) (mbv m)) := by
  obtain ⟨cur, h1, h2, h3⟩ := h
  refine ⟨_, putW_block _ _ h1, by rw [putA_size]; exact h2, fun i hi j u hj => ?_⟩
  have hj4 : j < 4 := by
    rcases Nat.lt_or_ge j 4 with h | h
    · exact h
    · rw [List.getElem?_eq_none (by rw [mbv_length]; exact h)] at hj; cases hj
  by_cases hik : i < k
  · rw [putA_out _ _ _ _ (by rw [mbv_length]; omega)]
    exact h3 i hik j u hj
  · obtain rfl : i = k := by omega
    rw [he] at hj
    rw [putA_in _ _ _ _ (by rw [mbv_length]; omega) (by rw [mbv_length]; exact hj4)]
    exact hj
theorem MFill.in {G : Nat} {ms : List Mbr} {w : World} (h : MFill G ms.length ms w) : MbrsIn w.heap.size w (some ⟨G, 0, none⟩) ms := fun i hi => by
  have hlt := h.lt
  obtain ⟨cur, h1, h2, h3⟩ := h
  refine ⟨G, 0, rfl, hlt, fun j u hj => ?_⟩
  rw [cell_of_row _ _ _ _ _ _ h1, Nat.zero_add]
  exact h3 i hi j u hj

/-- A change that came in, behind its pointer. -/
def ChgIn (w : World) (p : Option Addr) : Option Chg → Prop
  | none => p = none
  | some c => ∃ g o am cm, p = some ⟨g, o, none⟩ ∧ g < w.heap.size ∧ (∀ j u, (c.cells (.slice am c.members.length cm))[j]? = some u → w.cell? ⟨g, o + j, none⟩ = some u) ∧ MbrsIn w.heap.size w am c.members ∧ (am = none → c.members = [] ∧ cm = 0)

theorem Try.info56 : (Try.prog.info? 56).map (fun i => (i.zero, i.size, i.bytes)) = some (some (.agg (env ent0 (.slice none 0 0)).toArray), 5, 64) := by kernel_rfl
theorem Try.info61 : (Try.prog.info? 61).map (fun i => (i.zero, i.size, i.bytes)) = some (some (.agg (mbv mbr0).toArray), 4, 32) := by kernel_rfl
theorem efill0 {g : Nat} {es : List Ent} {w : World} {xs : List Value} (h : w.ownsRow g 56 5 (.slice (some ⟨g, 0, none⟩) es.length es.length) es.length xs) : EFill g 0 es w := by
  obtain ⟨_, h2⟩ := h
  rcases h2 with ⟨h2, _⟩ | ⟨g', cap, cur, hv, hg, hh, _, _, hs, _⟩
  · cases h2
  · cases hv
    exact ⟨cur, hh, hs, fun i hi => by omega⟩
theorem mfill0 {g : Nat} {es : List Mbr} {w : World} {xs : List Value} (h : w.ownsRow g 61 4 (.slice (some ⟨g, 0, none⟩) es.length es.length) es.length xs) : MFill g 0 es w := by
  obtain ⟨_, h2⟩ := h
  rcases h2 with ⟨h2, _⟩ | ⟨g', cap, cur, hv, hg, hh, _, _, hs, _⟩
  · cases h2
  · cases hv
    exact ⟨cur, hh, hs, fun i hi => by omega⟩
end Go.Proofs.Qxb6616158a
