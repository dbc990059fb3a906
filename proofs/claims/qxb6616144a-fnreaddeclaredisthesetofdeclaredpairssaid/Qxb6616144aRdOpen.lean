import Derived.Test.Qxb6616144aRd
import Derived.ProofKit
import Derived.OpenShut
import Derived.ShutString
import Derived.Deep.Fields
import Derived.Carry
namespace Go.Proofs.Qxb6616144a
open Go.ChangeShapes Go.WideShapes Go.ChangeAt Go.RowKit Go.Deep

section
variable {H : Type} {enc : TypeId × Value → H} {P : Program} {w : World} {base : Nat} {spare : Nat → Bool} {held : Bool}

/-- A struct whose fields are one cell each, field by field, at its cells. -/
theorem struct_fields {t : TypeId} {fs : Array Field} {fuel : Nat} {cs : List Value} {x : DataW H × List MemPlace} (hs : P.underlying t = some (.struct fs)) (hone : ∀ (i : Nat) (f : Field), fs[i]? = some f → f.offset = i ∧ P.cellsOf f.type = 1) (hC : P.cellsOf t = fs.size)
    (h : DataW.trod enc P w base spare held fuel t cs = some x) :
    cs.length = fs.size ∧ ∃ n, ∀ (i : Nat) (f : Field), fs[i]? = some f → ∃ y, DataW.trod enc P w base spare held n f.type [cs.getD i (.bool false)] = some y := by
  obtain ⟨xs, n, _, rfl, hl, hxl, hf⟩ := DataW.trod_struct hs h
  rw [hC] at hl
  refine ⟨hl, n, fun i f hi => ?_⟩
  have hlt : i < fs.size := (Array.getElem?_eq_some_iff.1 hi).1
  obtain ⟨ho, hc1⟩ := hone i f hi
  have g := hf i f hi
  rw [ho, hc1, take1_drop cs i (.bool false) (by omega), List.getElem?_eq_getElem (by omega)] at g
  exact ⟨_, g⟩

/-- A slice, its elements read by 'rd'. -/
theorem slice_of {α : Type} (d : α) {R : α → List Value → Prop} {t e : TypeId} {k fuel : Nat} {cs : List Value} {x : DataW H × List MemPlace} (ht : P.underlying t = some (.slice e)) (hk : P.cellsOf e = k) (k0 : 0 < k)
    (rd : ∀ (n : Nat) (cs' : List Value) (x' : DataW H × List MemPlace), DataW.trod enc P w base spare held n e cs' = some x' → ∃ y : α, R y cs') (h : DataW.trod enc P w base spare held fuel t cs = some x) :
    ∃ (a : Option Addr) (ys : List α) (cap : Nat), cs = [.slice a ys.length cap] ∧ (a = none → ys = [] ∧ cap = 0) ∧ ys.length ≤ maxLen ∧
      ∀ i, i < ys.length → ∃ b off cs', a = some ⟨b, off, none⟩ ∧ b < w.heap.size ∧ R (ys.getD i d) cs' ∧ ∀ j u, cs'[j]? = some u → w.cell? ⟨b, off + i * k + j, none⟩ = some u := by
  rcases open_slice ht h with ⟨rfl, _⟩ | ⟨a, len, cap, m, n, D, Pl, rfl, hb, hl, hm, hmm, _, hx⟩
  · exact ⟨none, [], 0, rfl, fun _ => ⟨rfl, rfl⟩, by simp, fun i hi => by simp at hi⟩
  have hlm : len ≤ m := by rw [hmm]; split <;> omega
  rw [hk] at hx
  have hx' : ∀ i, i < len → ∃ y : α, ∃ cs', w.cells? base (a.add (i * k)) k = some cs' ∧ R y cs' := fun i hi => by
    obtain ⟨cs', h1, h2⟩ := hx i (by omega)
    obtain ⟨y, hy⟩ := rd _ _ _ h2
    exact ⟨y, cs', h1, hy⟩
  obtain ⟨Y, hY⟩ := @choose_lt α ⟨d⟩ len (fun i y => ∃ cs', w.cells? base (a.add (i * k)) k = some cs' ∧ R y cs') hx'
  refine ⟨some a, (List.range len).map Y, cap, by simp, (fun h => by cases h), (by simp; omega), fun i hi => ?_⟩
  have hi' : i < len := by simpa using hi
  obtain ⟨cs', h1, h2⟩ := hY i hi'
  obtain ⟨_, hl', hcell⟩ := World.cells?_some h1
  obtain ⟨b, off, sp⟩ := a
  have hsp : sp = none := by
    obtain ⟨cs0, h10, _⟩ := hY 0 (by omega)
    obtain ⟨_, hl0, hcell0⟩ := World.cells?_some h10
    have h0 := hcell0 0 k0
    rw [List.getElem?_eq_getElem (by omega)] at h0
    have hs := World.cell?_spot h0
    simpa [Addr.add] using hs
  subst hsp
  have hget : ((List.range len).map Y).getD i d = Y i := by simp [List.getD, hi']
  have hc2 : ∀ j u, cs'[j]? = some u → w.cell? ⟨b, off + i * k + j, none⟩ = some u := fun j u hj => by
    have hjl : j < k := by rw [← hl']; exact (List.getElem?_eq_some_iff.1 hj).1
    have := hcell j hjl
    rw [add_plain, add_plain] at this
    rw [this]; exact hj
  refine ⟨b, off, cs', rfl, ?_, by rw [hget]; exact h2, hc2⟩
  have h0 := hc2 0 _ (List.getElem?_eq_getElem (by omega))
  exact block_lt_of_cell h0
end

theorem list2 {l : List Value} (h : l.length = 2) : ∃ a b, l = [a, b] := by
  match l, h with
  | [a, b], _ => exact ⟨a, b, rfl⟩
theorem list3 {l : List Value} (h : l.length = 3) : ∃ a b c, l = [a, b, c] := by
  match l, h with
  | [a, b, c], _ => exact ⟨a, b, c, rfl⟩
theorem list4 {l : List Value} (h : l.length = 4) : ∃ a b c d, l = [a, b, c, d] := by
  match l, h with
  | [a, b, c, d], _ => exact ⟨a, b, c, d, rfl⟩
theorem list5 {l : List Value} (h : l.length = 5) : ∃ a b c d e, l = [a, b, c, d, e] := by
  match l, h with
  | [a, b, c, d, e], _ => exact ⟨a, b, c, d, e, rfl⟩

section
variable {H : Type} {enc : TypeId × Value → H} {w : World} {base : Nat} {spare : Nat → Bool} {held : Bool}

theorem open_sts {fuel : Nat} {cs : List Value} {x : DataW H × List MemPlace} (h : DataW.trod enc Try.prog w base spare held fuel 22 cs = some x) :
    ∃ (a : Option Addr) (ss : List ByteArray) (cap : Nat), cs = [.slice a ss.length cap] ∧ (a = none → ss = [] ∧ cap = 0) ∧ StsAt w.heap.size w a ss ∧ ss.length ≤ maxLen := by
  obtain ⟨a, ss, cap, rfl, ha, hl, hc⟩ := slice_of ByteArray.empty (R := fun (y : ByteArray) cs => cs = [.string y] ∧ y.size ≤ maxLen) (k := 1) Try.underlying22 cells9 (by omega) (fun n cs' x' h' => by obtain ⟨s, e, _, b⟩ := DataW.trod_string Try.underlying9 h'; exact ⟨s, e, b⟩) h
  refine ⟨a, ss, cap, rfl, ha, fun i hi => ?_, hl⟩
  obtain ⟨b, off, cs', e, hb, ⟨rfl, hz⟩, hu⟩ := hc i hi
  refine ⟨b, off, e, hb, ?_, hz⟩
  have := hu 0 _ rfl
  simpa using this

theorem open_ev {fuel : Nat} {cs : List Value} {x : DataW H × List MemPlace} (h : DataW.trod enc Try.prog w base spare held fuel 71 cs = some x) :
    ∃ m : Ev, cs = evv m ∧ m.entity.size ≤ maxLen ∧ m.event.size ≤ maxLen := by
  obtain ⟨hl, n, hf⟩ := struct_fields Try.underlying71 (hone_of (by kernel_rfl)) (by kernel_rfl) h
  obtain ⟨v0, v1, rfl⟩ := list2 hl
  obtain ⟨_, h0⟩ := hf 0 _ rfl
  obtain ⟨_, h1⟩ := hf 1 _ rfl
  obtain ⟨s0, e0', _, b0⟩ := DataW.trod_string Try.underlying9 h0
  obtain ⟨s1, e1', _, b1⟩ := DataW.trod_string Try.underlying9 h1
  simp at e0' e1'
  subst e0' e1'
  exact ⟨⟨s0, s1⟩, rfl, b0, b1⟩
theorem open_evs {fuel : Nat} {cs : List Value} {x : DataW H × List MemPlace} (h : DataW.trod enc Try.prog w base spare held fuel 37 cs = some x) :
    ∃ (a : Option Addr) (es : List Ev) (cap : Nat), cs = [.slice a es.length cap] ∧ (a = none → es = [] ∧ cap = 0) ∧ EvsAt w.heap.size w a es ∧ es.length ≤ maxLen := by
  obtain ⟨a, es, cap, rfl, ha, hl, hc⟩ := slice_of ev0 (R := fun (m : Ev) cs => cs = evv m ∧ m.entity.size ≤ maxLen ∧ m.event.size ≤ maxLen) (k := 2) Try.underlying37 (by kernel_rfl) (by omega) (fun n cs' x' h' => open_ev h') h
  refine ⟨a, es, cap, rfl, ha, fun i hi => ?_, hl⟩
  obtain ⟨b, off, cs', e, hb, ⟨rfl, hz⟩, hu⟩ := hc i hi
  exact ⟨b, off, e, hb, hz, hu⟩
theorem open_rl {fuel : Nat} {cs : List Value} {x : DataW H × List MemPlace} (h : DataW.trod enc Try.prog w base spare held fuel 76 cs = some x) :
    ∃ m : Rl, cs = rlv m ∧ m.entity.size ≤ maxLen ∧ m.event.size ≤ maxLen ∧ m.requires.size ≤ maxLen := by
  obtain ⟨hl, n, hf⟩ := struct_fields Try.underlying76 (hone_of (by kernel_rfl)) (by kernel_rfl) h
  obtain ⟨v0, v1, v2, v3, rfl⟩ := list4 hl
  obtain ⟨_, h0⟩ := hf 0 _ rfl
  obtain ⟨_, h1⟩ := hf 1 _ rfl
  obtain ⟨_, h2⟩ := hf 2 _ rfl
  obtain ⟨_, h3⟩ := hf 3 _ rfl
  obtain ⟨s0, e0', _, b0⟩ := DataW.trod_string Try.underlying9 h0
  obtain ⟨s1, e1', _, b1⟩ := DataW.trod_string Try.underlying9 h1
  obtain ⟨s2, e2', _, b2⟩ := DataW.trod_string Try.underlying9 h2
  obtain ⟨n3, e3', _, _⟩ := DataW.trod_int Try.underlying3 h3
  simp at e0' e1' e2' e3'
  subst e0' e1' e2' e3'
  exact ⟨⟨s0, s1, s2, n3⟩, rfl, b0, b1, b2⟩
theorem open_rls {fuel : Nat} {cs : List Value} {x : DataW H × List MemPlace} (h : DataW.trod enc Try.prog w base spare held fuel 72 cs = some x) :
    ∃ (a : Option Addr) (es : List Rl) (cap : Nat), cs = [.slice a es.length cap] ∧ (a = none → es = [] ∧ cap = 0) ∧ RlsAt w.heap.size w a es ∧ es.length ≤ maxLen := by
  obtain ⟨a, es, cap, rfl, ha, hl, hc⟩ := slice_of rl0 (R := fun (m : Rl) cs => cs = rlv m ∧ m.entity.size ≤ maxLen ∧ m.event.size ≤ maxLen ∧ m.requires.size ≤ maxLen) (k := 4) Try.underlying72 (by kernel_rfl) (by omega) (fun n cs' x' h' => open_rl h') h
  refine ⟨a, es, cap, rfl, ha, fun i hi => ?_, hl⟩
  obtain ⟨b, off, cs', e, hb, ⟨rfl, hz⟩, hu⟩ := hc i hi
  exact ⟨b, off, e, hb, hz, hu⟩
/-- A scope's cells. -/
def ScR (w : World) (s : Sc) (cs : List Value) : Prop :=
  ∃ au cu ar cr, cs = scv s (.slice au s.units.length cu) (.slice ar s.rules.length cr) ∧ (s.key.size ≤ maxLen ∧ s.id.size ≤ maxLen ∧ s.parent.size ≤ maxLen ∧ s.units.length ≤ maxLen ∧ s.rules.length ≤ maxLen) ∧
    StsAt w.heap.size w au s.units ∧ RlsAt w.heap.size w ar s.rules ∧ (au = none → s.units = [] ∧ cu = 0) ∧ (ar = none → s.rules = [] ∧ cr = 0)
theorem open_sc {fuel : Nat} {cs : List Value} {x : DataW H × List MemPlace} (h : DataW.trod enc Try.prog w base spare held fuel 74 cs = some x) : ∃ m : Sc, ScR w m cs := by
  obtain ⟨hl, n, hf⟩ := struct_fields Try.underlying74 (hone_of (by kernel_rfl)) (by kernel_rfl) h
  obtain ⟨v0, v1, v2, v3, v4, rfl⟩ := list5 hl
  obtain ⟨_, h0⟩ := hf 0 _ rfl
  obtain ⟨_, h1⟩ := hf 1 _ rfl
  obtain ⟨_, h2⟩ := hf 2 _ rfl
  obtain ⟨_, h3⟩ := hf 3 _ rfl
  obtain ⟨_, h4⟩ := hf 4 _ rfl
  obtain ⟨s0, e0', _, b0⟩ := DataW.trod_string Try.underlying9 h0
  obtain ⟨s1, e1', _, b1⟩ := DataW.trod_string Try.underlying9 h1
  obtain ⟨s2, e2', _, b2⟩ := DataW.trod_string Try.underlying9 h2
  obtain ⟨au, un, cu, e3', hau, hU, hul⟩ := open_sts h3
  obtain ⟨ar, rl, cr, e4', har, hR, hrl⟩ := open_rls h4
  simp at e0' e1' e2' e3' e4'
  subst e0' e1' e2' e3' e4'
  exact ⟨⟨s0, s1, s2, un, rl⟩, au, cu, ar, cr, rfl, ⟨b0, b1, b2, hul, hrl⟩, hU, hR, hau, har⟩
theorem open_scs {fuel : Nat} {cs : List Value} {x : DataW H × List MemPlace} (h : DataW.trod enc Try.prog w base spare held fuel 38 cs = some x) :
    ∃ (a : Option Addr) (es : List Sc) (cap : Nat), cs = [.slice a es.length cap] ∧ (a = none → es = [] ∧ cap = 0) ∧ ScsAt w.heap.size w a es ∧ es.length ≤ maxLen := by
  obtain ⟨a, es, cap, rfl, ha, hl, hc⟩ := slice_of sc0 (R := ScR w) (k := 5) Try.underlying38 (by kernel_rfl) (by omega) (fun n cs' x' h' => open_sc h') h
  refine ⟨a, es, cap, rfl, ha, fun i hi => ?_, hl⟩
  obtain ⟨b, off, cs', e, hb, ⟨au, cu, ar, cr, rfl, hz, hU, hR, hau, har⟩, hu⟩ := hc i hi
  exact ⟨b, off, au, cu, ar, cr, e, hb, hz, hU, hR, hau, har, hu⟩
def UnR (w : World) (s : Un) (cs : List Value) : Prop :=
  ∃ ar cr, cs = unv s (.slice ar s.rules.length cr) ∧ (s.key.size ≤ maxLen ∧ s.id.size ≤ maxLen ∧ s.rules.length ≤ maxLen) ∧ RlsAt w.heap.size w ar s.rules ∧ (ar = none → s.rules = [] ∧ cr = 0)
theorem open_un {fuel : Nat} {cs : List Value} {x : DataW H × List MemPlace} (h : DataW.trod enc Try.prog w base spare held fuel 78 cs = some x) : ∃ m : Un, UnR w m cs := by
  obtain ⟨hl, n, hf⟩ := struct_fields Try.underlying78 (hone_of (by kernel_rfl)) (by kernel_rfl) h
  obtain ⟨v0, v1, v2, rfl⟩ := list3 hl
  obtain ⟨_, h0⟩ := hf 0 _ rfl
  obtain ⟨_, h1⟩ := hf 1 _ rfl
  obtain ⟨_, h2⟩ := hf 2 _ rfl
  obtain ⟨s0, e0', _, b0⟩ := DataW.trod_string Try.underlying9 h0
  obtain ⟨s1, e1', _, b1⟩ := DataW.trod_string Try.underlying9 h1
  obtain ⟨ar, rl, cr, e2', har, hR, hrl⟩ := open_rls h2
  simp at e0' e1' e2'
  subst e0' e1' e2'
  exact ⟨⟨s0, s1, rl⟩, ar, cr, rfl, ⟨b0, b1, hrl⟩, hR, har⟩
theorem open_uns {fuel : Nat} {cs : List Value} {x : DataW H × List MemPlace} (h : DataW.trod enc Try.prog w base spare held fuel 39 cs = some x) :
    ∃ (a : Option Addr) (es : List Un) (cap : Nat), cs = [.slice a es.length cap] ∧ (a = none → es = [] ∧ cap = 0) ∧ UnsAt w.heap.size w a es ∧ es.length ≤ maxLen := by
  obtain ⟨a, es, cap, rfl, ha, hl, hc⟩ := slice_of un0 (R := UnR w) (k := 3) Try.underlying39 (by kernel_rfl) (by omega) (fun n cs' x' h' => open_un h') h
  refine ⟨a, es, cap, rfl, ha, fun i hi => ?_, hl⟩
  obtain ⟨b, off, cs', e, hb, ⟨ar, cr, rfl, hz, hR, har⟩, hu⟩ := hc i hi
  exact ⟨b, off, ar, cr, e, hb, hz, hR, har, hu⟩
end
end Go.Proofs.Qxb6616144a
