import Derived.Test.Qxb6616144aZz
namespace Go.Proofs.Qxb6616144a
open Go.RowKit Go.Maps Go.Sort Go.Shelf

/-! ### Cells from a block on are kept -/
def KCf (lo : Nat) (w w' : World) : Prop := w.heap.size ≤ w'.heap.size ∧ ∀ b j v, lo ≤ b → w.cell? ⟨b, j, none⟩ = some v → w'.cell? ⟨b, j, none⟩ = some v
theorem KCf.trans {lo : Nat} {a b c : World} (h : KCf lo a b) (k : KCf lo b c) : KCf lo a c := ⟨Nat.le_trans h.1 k.1, fun i j v hi hv => k.2 i j v hi (h.2 i j v hi hv)⟩
theorem KCf.of_below {lo : Nat} {w w' : World} (h : Below w.heap.size w w') : KCf lo w w' := ⟨h.size, fun b j v _ hv => by rw [h.cell (p := ⟨b, j, none⟩) (cell_lt hv)]; exact hv⟩
theorem KCf.of_grown {lo : Nat} {w w' : World} {row : Option Nat} (h : w.grownBy w' row) (hr : ∀ r, row = some r → ∃ o : Obj, w.heap[r]? = some o ∧ o.isCells = false) : KCf lo w w' := ⟨h.size, fun _ _ _ _ hv => cell_kept hv h hr⟩
theorem KCf.of_set (w : World) (g j : Nat) (u : Value) : KCf (g + 1) w (w.setCell ⟨g, j, none⟩ u) := ⟨by simp [World.setCell], fun b i v hb hv => (World.cell?_of_block (Below.heap_setCell w ⟨g, j, none⟩ u b (by show b ≠ g; omega))).trans hv⟩
theorem RlsIn.kc {lo : Nat} {w w' : World} {a : Option Addr} {rs : List Rl} (h : RlsIn lo w a rs) (k : KCf lo w w') : RlsIn lo w' a rs := h.keep k.1 k.2

def EvsIn (lo : Nat) (w : World) (a : Option Addr) (es : List Ev) : Prop :=
  ∀ i, i < es.length → ∃ b off, a = some ⟨b, off, none⟩ ∧ lo ≤ b ∧ b < w.heap.size ∧ ((es.getD i ev0).entity.size ≤ maxLen ∧ (es.getD i ev0).event.size ≤ maxLen) ∧ ∀ j u, (evv (es.getD i ev0))[j]? = some u → w.cell? ⟨b, off + i * 2 + j, none⟩ = some u
theorem EvsIn.kc {lo : Nat} {w w' : World} {a : Option Addr} {es : List Ev} (h : EvsIn lo w a es) (k : KCf lo w w') : EvsIn lo w' a es := fun i hi => by
  obtain ⟨b, off, e, h1, h2, hz, hc⟩ := h i hi
  have := k.1
  exact ⟨b, off, e, h1, by omega, hz, fun j u hj => k.2 b _ u h1 (hc j u hj)⟩
theorem EvsIn.at {lo : Nat} {w : World} {a : Option Addr} {es : List Ev} (h : EvsIn lo w a es) : EvsAt w.heap.size w a es := fun i hi => by
  obtain ⟨b, off, e, _, h2, hz, hc⟩ := h i hi
  exact ⟨b, off, e, h2, hz, hc⟩

/-! ### A map of rules under way -/
def RMk (Sh : Value → Value → Prop) (lo : Nat) (w : World) (D : DataW Value) (G : List UInt8 → Option (List Rl)) : Prop :=
  ∀ k, (has D (.string k) = true ↔ (G k).isSome = true) ∧ ∀ rl, G k = some rl → ∃ v ar cr, (∀ zd, D.atKey (.string k) zd = .held v) ∧ Sh v (.slice ar rl.length cr) ∧ RlsIn lo w ar rl ∧ rl.length ≤ 1048576
def RM (Sh : Value → Value → Prop) (lo : Nat) (w : World) (m : Option Nat) (nn : Nat) (G : List UInt8 → Option (List Rl)) : Prop :=
  ∃ D, OwnsO w m nn D ∧ (∀ b, m = some b → lo ≤ b) ∧ RMk Sh lo w D G
theorem RMk.kc {Sh : Value → Value → Prop} {lo : Nat} {w w' : World} {D : DataW Value} {G : List UInt8 → Option (List Rl)} (h : RMk Sh lo w D G) (k : KCf lo w w') : RMk Sh lo w' D G := fun x => ⟨(h x).1, fun rl e => by
  obtain ⟨v, ar, cr, q1, q2, q3, q4⟩ := (h x).2 rl e
  exact ⟨v, ar, cr, q1, q2, q3.kc k, q4⟩⟩
theorem RM.kc {Sh : Value → Value → Prop} {lo : Nat} {w w' : World} {m : Option Nat} {nn : Nat} {G : List UInt8 → Option (List Rl)} (h : RM Sh lo w m nn G) (k : KCf lo w w') (hm : ∀ b, m = some b → w'.heap[b]? = w.heap[b]?) : RM Sh lo w' m nn G := by
  obtain ⟨D, h1, h2, h3⟩ := h
  exact ⟨D, h1.keep hm, h2, h3.kc k⟩
theorem OwnsO.lt {w : World} {m : Option Nat} {nn : Nat} {D : DataW Value} (h : OwnsO w m nn D) (b : Nat) (e : m = some b) : b < w.heap.size := by
  subst e; exact World.ownsMap.lt h
theorem RM.lt {Sh : Value → Value → Prop} {lo : Nat} {w : World} {m : Option Nat} {nn : Nat} {G : List UInt8 → Option (List Rl)} (h : RM Sh lo w m nn G) (b : Nat) (e : m = some b) : b < w.heap.size := by
  obtain ⟨D, h1, _⟩ := h; exact h1.lt b e
theorem RM.rmap {Sh : Value → Value → Prop} {lo : Nat} {w : World} {m : Option Nat} {nn : Nat} {G : List UInt8 → Option (List Rl)} (h : RM Sh lo w m nn G) (hn : nn ≤ 1048576) : RMap Sh w.heap.size w m G := by
  obtain ⟨D, h1, h2, h3⟩ := h
  refine ⟨nn, D, h1, fun b e => h1.lt b e, hn, fun k => ⟨(h3 k).1, fun rl e => ?_⟩⟩
  obtain ⟨v, ar, cr, q1, q2, q3, q4⟩ := (h3 k).2 rl e
  exact ⟨v, ar, cr, q1, q2, q3.at, q4⟩
theorem rm_nil (Sh : Value → Value → Prop) (lo : Nat) (w : World) : RM Sh lo w none 0 (fun _ => none) :=
  ⟨.map [], rfl, fun b e => (by cases e), fun k => ⟨by simp [has], fun rl e => (by cases e)⟩⟩
theorem rmk_nil (Sh : Value → Value → Prop) (lo : Nat) (w : World) : RMk Sh lo w (.map []) (fun _ => none) := fun k => ⟨by simp [has], fun rl e => (by cases e)⟩
theorem rm_made (Sh : Value → Value → Prop) (lo : Nat) (w : World) (h : lo ≤ w.heap.size) : RM Sh lo (w.alloc (.map #[] 0)) (some w.heap.size) 0 (fun _ => none) :=
  ⟨.map [], World.ownsMap_made w Try.prog 9 hR, fun b e => (by cases e; exact h), rmk_nil _ _ _⟩

/-- The rules under a key: those of the last element that bears it. -/
def GK {α : Type} (key : α → List UInt8) (rules : α → List Rl) (l : List α) : List UInt8 → Option (List Rl) :=
  l.foldl (fun G s => fun k => if k = key s then some (rules s) else G k) (fun _ => none)
theorem GK_snoc {α : Type} (key : α → List UInt8) (rules : α → List Rl) (l : List α) (s : α) : GK key rules (l ++ [s]) = fun k => if k = key s then some (rules s) else GK key rules l k := by
  simp [GK, List.foldl_append]
abbrev GS (ss : List Sc) := GK (fun s : Sc => s.key.data.toList) (·.rules) ss
abbrev GU (us : List Un) := GK (fun s : Un => s.key.data.toList) (·.rules) us

/-- One entry more. -/
theorem RM.put {Sh : Value → Value → Prop} {lo : Nat} {w1 w2 : World} {b nn : Nat} {D : DataW Value} {G : List UInt8 → Option (List Rl)} {key : List UInt8} {v : Value} {ar : Option Addr} {cr : Nat} {rl : List Rl}
    (hown : w1.ownsMap Try.prog 9 hR b nn D) (hlo : lo ≤ b) (hk : RMk Sh lo w1 D G) (hown2 : w2.ownsMap Try.prog 9 hR b (nn + 1) (D.put (.string key) (.held v))) (hgr : w1.grownBy w2 (some b)) (hsh : Sh v (.slice ar rl.length cr)) (hr : RlsIn lo w1 ar rl) (hle : rl.length ≤ 1048576) :
    RM Sh lo w2 (some b) (nn + 1) (fun k => if k = key then some rl else G k) := by
  have hc := ownsMap_notCells hown
  have kc : KCf lo w1 w2 := KCf.of_grown hgr (fun r e => by cases e; exact hc)
  refine ⟨_, hown2, fun b' e => (by cases e; exact hlo), fun k => ?_⟩
  show (has (D.put (.string key) (.held v)) (.string k) = true ↔ (if k = key then some rl else G k).isSome = true) ∧ ∀ rl', (if k = key then some rl else G k) = some rl' → _
  by_cases e : k = key
  · subst e
    rw [if_pos rfl]
    refine ⟨⟨fun _ => rfl, fun _ => has_put_same hown.isMap (show WideAt.IsKeyLit (.string k) from trivial) _⟩, fun rl' e' => ?_⟩
    cases e'
    exact ⟨v, ar, cr, fun zd => atKey_put_same hown.isMap (show WideAt.IsKeyLit (.string k) from trivial) _ zd, hsh, hr.kc kc, hle⟩
  · rw [if_neg e]
    have hne : Lit.string k ≠ Lit.string key := fun h => e (by cases h; rfl)
    refine ⟨by rw [has_put_other hne]; exact (hk k).1, fun rl' e' => ?_⟩
    obtain ⟨v', ar', cr', q1, q2, q3, q4⟩ := (hk k).2 rl' e'
    exact ⟨v', ar', cr', fun zd => (atKey_put_other hne _ zd).trans (q1 zd), q2, q3.kc kc, q4⟩

/-- The policy's block. -/
def polv (m1 m2 : Option Nat) (ev : Value) : Array Value := #[.map none, .slice none 0 0, .int .i64 0, .pointer none, .slice none 0 0, .map m1, .map m2, ev, .nilIface]
end Go.Proofs.Qxb6616144a
