import Derived.Test.Qxb6616158aRows
import Derived.Test.Qxb6616158aLaw
import Derived.ProofKit
import Derived.OpenShut
import Derived.ShutString
import Derived.Deep.Fields
import Derived.Carry
namespace Go.Proofs.Qxb6616158a
open Go.ChangeShapes Go.WideShapes Go.ChangeAt Go.RowKit Go.Deep

section
variable {H : Type} {enc : TypeId × Value → H} {P : Program} {w : World} {base : Nat} {spare : Nat → Bool} {held : Bool}

/-- A struct whose fields are one cell each, field by field, at its cells. -/
theorem struct_fields {t : TypeId} {fs : Array Field} {fuel : Nat} {cs : List Value} {x : DataW H × List MemPlace} (hs : P.underlying t = some (.struct fs)) (hone : ∀ (i : Nat) (f : Field), fs[i]? = some f → f.offset = i ∧ P.cellsOf f.type = 1) (hC : P.cellsOf t = fs.size)
    (h : DataW.trod enc P w base spare held fuel t cs = some x) :
    cs.length = fs.size ∧ ∃ n, ∀ (i : Nat) (f : Field), fs[i]? = some f → ∃ y, DataW.trod enc P w base spare held n f.type [cs.getD i (.bool false)] = some y := by
  obtain ⟨xs, n, _, rfl, hl, hxl, hf⟩ := DataW.trod_struct hs h
  rw [hC] at hl
  refine ⟨hl, n, fun i f hi => ?_⟩
  have hlt : i < fs.size := (Array.getElem?_eq_some_iff.1 hi).1
  obtain ⟨ho, hc1⟩ := hone i f hi
  have g := hf i f hi
  rw [ho, hc1, take1_drop cs i (.bool false) (by omega), List.getElem?_eq_getElem (by omega)] at g
  exact ⟨_, g⟩

/-- A slice, its elements read by 'rd'. -/
theorem slice_of {α : Type} (d : α) {R : α → List Value → Prop} {t e : TypeId} {k fuel : Nat} {cs : List Value} {x : DataW H × List MemPlace} (ht : P.underlying t = some (.slice e)) (hk : P.cellsOf e = k) (k0 : 0 < k)
    (rd : ∀ (n : Nat) (cs' : List Value) (x' : DataW H × List MemPlace), DataW.trod enc P w base spare held n e cs' = some x' → ∃ y : α, R y cs') (h : DataW.trod enc P w base spare held fuel t cs = some x) :
    ∃ (a : Option Addr) (ys : List α) (cap : Nat), cs = [.slice a ys.length cap] ∧ (a = none → ys = [] ∧ cap = 0) ∧ ys.length ≤ maxLen ∧
      ∀ i, i < ys.length → ∃ b off cs', a = some ⟨b, off, none⟩ ∧ b < w.heap.size ∧ R (ys.getD i d) cs' ∧ ∀ j u, cs'[j]? = some u → w.cell? ⟨b, off + i * k + j, none⟩ = some u := by
  rcases open_slice ht h with ⟨rfl, _⟩ | ⟨a, len, cap, m, n, D, Pl, rfl, hb, hl, hm, hmm, _, hx⟩
  · exact ⟨none, [], 0, rfl, fun _ => ⟨rfl, rfl⟩, by simp, fun i hi => by simp at hi⟩
  have hlm : len ≤ m := by rw [hmm]; split <;> omega
  rw [hk] at hx
  have hx' : ∀ i, i < len → ∃ y : α, ∃ cs', w.cells? base (a.add (i * k)) k = some cs' ∧ R y cs' := fun i hi => by
    obtain ⟨cs', h1, h2⟩ := hx i (by omega)
    obtain ⟨y, hy⟩ := rd _ _ _ h2
    exact ⟨y, cs', h1, hy⟩
  obtain ⟨Y, hY⟩ := @choose_lt α ⟨d⟩ len (fun i y => ∃ cs', w.cells? base (a.add (i * k)) k = some cs' ∧ R y cs') hx'
  refine ⟨some a, (List.range len).map Y, cap, by simp, (fun h => by cases h), (by simp; omega), fun i hi => ?_⟩
  have hi' : i < len := by simpa using hi
  obtain ⟨cs', h1, h2⟩ := hY i hi'
  obtain ⟨_, hl', hcell⟩ := World.cells?_some h1
  obtain ⟨b, off, sp⟩ := a
  have hsp : sp = none := by
    obtain ⟨cs0, h10, _⟩ := hY 0 (by omega)
    obtain ⟨_, hl0, hcell0⟩ := World.cells?_some h10
    have h0 := hcell0 0 k0
    rw [List.getElem?_eq_getElem (by omega)] at h0
    have hs := World.cell?_spot h0
    simpa [Addr.add] using hs
  subst hsp
  have hget : ((List.range len).map Y).getD i d = Y i := by simp [List.getD, hi']
  have hc2 : ∀ j u, cs'[j]? = some u → w.cell? ⟨b, off + i * k + j, none⟩ = some u := fun j u hj => by
    have hjl : j < k := by rw [← hl']; exact (List.getElem?_eq_some_iff.1 hj).1
    have := hcell j hjl
    rw [add_plain, add_plain] at this
    rw [this]; exact hj
  refine ⟨b, off, cs', rfl, ?_, by rw [hget]; exact h2, hc2⟩
  have h0 := hc2 0 _ (List.getElem?_eq_getElem (by omega))
  exact block_lt_of_cell h0

theorem trod_u64 {t : TypeId} {fuel : Nat} {cs : List Value} {x : DataW H × List MemPlace} (ht : P.underlying t = some (.int .u64)) (h : DataW.trod enc P w base spare held fuel t cs = some x) : ∃ n : Nat, cs = [.int .u64 (n : Int)] ∧ n < 18446744073709551616 := by
  obtain ⟨n, rfl, _, hw⟩ := DataW.trod_int ht h
  have := bounds_u64 hw
  exact ⟨n.toNat, by rw [Int.toNat_of_nonneg this.1], by omega⟩
theorem trod_u8 {t : TypeId} {fuel : Nat} {cs : List Value} {x : DataW H × List MemPlace} (ht : P.underlying t = some (.int .u8)) (h : DataW.trod enc P w base spare held fuel t cs = some x) : ∃ n : Nat, cs = [.int .u8 (n : Int)] := by
  obtain ⟨n, rfl, _, hw⟩ := DataW.trod_int ht h
  have := bounds_u8 hw
  exact ⟨n.toNat, by rw [Int.toNat_of_nonneg this.1]⟩
end

theorem list4 {l : List Value} (h : l.length = 4) : ∃ a b c d, l = [a, b, c, d] := by
  match l, h with
  | [a, b, c, d], _ => exact ⟨a, b, c, d, rfl⟩
theorem list5 {l : List Value} (h : l.length = 5) : ∃ a b c d e, l = [a, b, c, d, e] := by
  match l, h with
  | [a, b, c, d, e], _ => exact ⟨a, b, c, d, e, rfl⟩
theorem list9 {l : List Value} (h : l.length = 9) : ∃ a b c d e f g i j, l = [a, b, c, d, e, f, g, i, j] := by
  match l, h with
  | [a, b, c, d, e, f, g, i, j], _ => exact ⟨a, b, c, d, e, f, g, i, j, rfl⟩
theorem list13 {l : List Value} (h : l.length = 13) : ∃ a b c d e f g i j k m n o, l = [a, b, c, d, e, f, g, i, j, k, m, n, o] := by
  match l, h with
  | [a, b, c, d, e, f, g, i, j, k, m, n, o], _ => exact ⟨a, b, c, d, e, f, g, i, j, k, m, n, o, rfl⟩

section
variable {H : Type} {enc : TypeId × Value → H} {w : World} {base : Nat} {spare : Nat → Bool} {held : Bool}

theorem open_bytes {fuel : Nat} {cs : List Value} {x : DataW H × List MemPlace} (h : DataW.trod enc Try.prog w base spare held fuel 28 cs = some x) :
    ∃ (a : Option Addr) (ps : List Nat) (cap : Nat), cs = [.slice a ps.length cap] ∧ PayAt w.heap.size w a cap ps ∧ ps.length ≤ maxLen := by
  obtain ⟨a, ps, cap, rfl, ha, hl, hc⟩ := slice_of (0 : Nat) (R := fun (y : Nat) cs => cs = [.int .u8 (y : Int)]) (k := 1) Try.underlying28 (by kernel_rfl) (by omega) (fun n cs' x' h' => trod_u8 Try.underlying5 h') h
  refine ⟨a, ps, cap, rfl, ⟨ha, fun i hi => ?_⟩, hl⟩
  obtain ⟨b, off, cs', e, hb, rfl, hu⟩ := hc i hi
  refine ⟨b, off, e, hb, ?_⟩
  have := hu 0 _ rfl
  simpa using this

theorem open_ends {fuel : Nat} {cs : List Value} {x : DataW H × List MemPlace} (h : DataW.trod enc Try.prog w base spare held fuel 24 cs = some x) :
    ∃ (a : Option Addr) (ps : List Nat) (cap : Nat), cs = [.slice a ps.length cap] ∧ (a = none → ps = [] ∧ cap = 0) ∧ NumsAt w a ps ∧ ps.length ≤ maxLen ∧ ∀ x ∈ ps, x < 18446744073709551616 := by
  obtain ⟨a, ps, cap, rfl, ha, hl, hc⟩ := slice_of (0 : Nat) (R := fun (y : Nat) cs => cs = [.int .u64 (y : Int)] ∧ y < 18446744073709551616) (k := 1) Try.underlying24 (by kernel_rfl) (by omega) (fun n cs' x' h' => trod_u64 Try.underlying22 h') h
  refine ⟨a, ps, cap, rfl, ha, fun i hi => ?_, hl, fun x hx => ?_⟩
  · obtain ⟨b, off, cs', e, hb, ⟨rfl, _⟩, hu⟩ := hc i hi
    refine ⟨b, off, e, hb, ?_⟩
    have := hu 0 _ rfl
    simpa using this
  · obtain ⟨i, hi, rfl⟩ := getD_of_mem (d := 0) hx
    obtain ⟨b, off, cs', e, hb, ⟨rfl, k⟩, hu⟩ := hc i hi
    exact k

theorem open_member {fuel : Nat} {cs : List Value} {x : DataW H × List MemPlace} (h : DataW.trod enc Try.prog w base spare held fuel 47 cs = some x) :
    ∃ m : Mbr, cs = mbv m ∧ m.id < 18446744073709551616 ∧ m.addr.size ≤ maxLen := by
  obtain ⟨hl, n, hf⟩ := struct_fields Try.underlying47 (hone_of (by kernel_rfl)) (by kernel_rfl) h
  obtain ⟨v0, v1, v2, v3, rfl⟩ := list4 hl
  obtain ⟨_, h0⟩ := hf 0 _ rfl
  obtain ⟨_, h1⟩ := hf 1 _ rfl
  obtain ⟨_, h2⟩ := hf 2 _ rfl
  obtain ⟨_, h3⟩ := hf 3 _ rfl
  obtain ⟨n0, e0, b0⟩ := trod_u64 Try.underlying22 h0
  obtain ⟨s1, e1, _, b1⟩ := DataW.trod_string Try.underlying9 h1
  obtain ⟨c2, e2, _⟩ := DataW.trod_bool Try.underlying4 h2
  obtain ⟨c3, e3, _⟩ := DataW.trod_bool Try.underlying4 h3
  simp at e0 e1 e2 e3
  subst e0 e1 e2 e3
  exact ⟨⟨n0, s1, c2, c3⟩, rfl, b0, b1⟩

theorem open_entry {fuel : Nat} {cs : List Value} {x : DataW H × List MemPlace} (h : DataW.trod enc Try.prog w base spare held fuel 42 cs = some x) :
    ∃ e : Ent, (∃ ap cp, cs = env e (.slice ap e.payload.length cp) ∧ PayAt w.heap.size w ap cp e.payload) ∧ e.pos < 18446744073709551616 ∧ e.epoch < 18446744073709551616 ∧ e.seq < 18446744073709551616 ∧ e.client.size ≤ maxLen ∧ e.payload.length ≤ maxLen := by
  obtain ⟨hl, n, hf⟩ := struct_fields Try.underlying42 (hone_of (by kernel_rfl)) (by kernel_rfl) h
  obtain ⟨v0, v1, v2, v3, v4, rfl⟩ := list5 hl
  obtain ⟨_, h0⟩ := hf 0 _ rfl
  obtain ⟨_, h1⟩ := hf 1 _ rfl
  obtain ⟨_, h2⟩ := hf 2 _ rfl
  obtain ⟨_, h3⟩ := hf 3 _ rfl
  obtain ⟨_, h4⟩ := hf 4 _ rfl
  obtain ⟨n0, e0, b0⟩ := trod_u64 Try.underlying22 h0
  obtain ⟨n1, e1, b1⟩ := trod_u64 Try.underlying22 h1
  obtain ⟨s2, e2, _, b2⟩ := DataW.trod_string Try.underlying9 h2
  obtain ⟨n3, e3, b3⟩ := trod_u64 Try.underlying22 h3
  obtain ⟨ap, ps, cp, e4, hp, hpl⟩ := open_bytes h4
  simp at e0 e1 e2 e3 e4
  subst e0 e1 e2 e3 e4
  exact ⟨⟨n0, n1, s2, n3, ps⟩, ⟨ap, cp, rfl, hp⟩, b0, b1, b3, b2, hpl⟩

theorem open_entries {fuel : Nat} {cs : List Value} {x : DataW H × List MemPlace} (h : DataW.trod enc Try.prog w base spare held fuel 23 cs = some x) :
    ∃ (a : Option Addr) (es : List Ent) (cap : Nat), cs = [.slice a es.length cap] ∧ (a = none → es = [] ∧ cap = 0) ∧ EntsAt w.heap.size w a es ∧ es.length ≤ maxLen ∧
      (∀ e ∈ es, e.pos < 18446744073709551616 ∧ e.epoch < 18446744073709551616 ∧ e.seq < 18446744073709551616) ∧ ∀ i, i < es.length → (es.getD i ent0).client.size ≤ maxLen ∧ (es.getD i ent0).payload.length ≤ maxLen := by
  obtain ⟨a, es, cap, rfl, ha, hl, hc⟩ := slice_of ent0 (R := fun (e : Ent) cs => (∃ ap cp, cs = env e (.slice ap e.payload.length cp) ∧ PayAt w.heap.size w ap cp e.payload) ∧ e.pos < 18446744073709551616 ∧ e.epoch < 18446744073709551616 ∧ e.seq < 18446744073709551616 ∧ e.client.size ≤ maxLen ∧ e.payload.length ≤ maxLen) (k := 5) Try.underlying23 (by kernel_rfl) (by omega) (fun n cs' x' h' => open_entry h') h
  refine ⟨a, es, cap, rfl, ha, fun i hi => ?_, hl, fun x hx => ?_, fun i hi => ?_⟩
  · obtain ⟨b, off, cs', e, hb, ⟨⟨ap, cp, rfl, hp⟩, _⟩, hu⟩ := hc i hi
    exact ⟨b, off, ap, cp, e, hb, hp, hu⟩
  · obtain ⟨i, hi, rfl⟩ := getD_of_mem (d := ent0) hx
    obtain ⟨b, off, cs', e, hb, ⟨_, k1, k2, k3, _⟩, hu⟩ := hc i hi
    exact ⟨k1, k2, k3⟩
  · obtain ⟨b, off, cs', e, hb, ⟨_, _, _, _, k1, k2⟩, hu⟩ := hc i hi
    exact ⟨k1, k2⟩

theorem open_members {fuel : Nat} {cs : List Value} {x : DataW H × List MemPlace} (h : DataW.trod enc Try.prog w base spare held fuel 43 cs = some x) :
    ∃ (a : Option Addr) (ms : List Mbr) (cap : Nat), cs = [.slice a ms.length cap] ∧ (a = none → ms = [] ∧ cap = 0) ∧ MbrsIn w.heap.size w a ms ∧ ms.length ≤ maxLen ∧
      (∀ m ∈ ms, m.id < 18446744073709551616) ∧ ∀ i, i < ms.length → (ms.getD i mbr0).addr.size ≤ maxLen := by
  obtain ⟨a, ms, cap, rfl, ha, hl, hc⟩ := slice_of mbr0 (R := fun (m : Mbr) cs => cs = mbv m ∧ m.id < 18446744073709551616 ∧ m.addr.size ≤ maxLen) (k := 4) Try.underlying43 (by kernel_rfl) (by omega) (fun n cs' x' h' => open_member h') h
  refine ⟨a, ms, cap, rfl, ha, fun i hi => ?_, hl, fun x hx => ?_, fun i hi => ?_⟩
  · obtain ⟨b, off, cs', e, hb, ⟨rfl, _⟩, hu⟩ := hc i hi
    exact ⟨b, off, e, hb, hu⟩
  · obtain ⟨i, hi, rfl⟩ := getD_of_mem (d := mbr0) hx
    obtain ⟨b, off, cs', e, hb, ⟨_, k, _⟩, hu⟩ := hc i hi
    exact k
  · obtain ⟨b, off, cs', e, hb, ⟨_, _, k⟩, hu⟩ := hc i hi
    exact k

theorem open_change {fuel : Nat} {cs : List Value} {x : DataW H × List MemPlace} (h : DataW.trod enc Try.prog w base spare held fuel 25 cs = some x) :
    ∃ (p : Option Addr) (oc : Option Chg), cs = [.pointer p] ∧ ChgIn w p oc ∧
      (∀ c, oc = some c → c.number < 18446744073709551616 ∧ c.epoch < 18446744073709551616 ∧ c.after < 18446744073709551616 ∧ c.goneID < 18446744073709551616 ∧ c.group < 18446744073709551616 ∧ ∀ m ∈ c.members, m.id < 18446744073709551616) ∧
      ∀ c, oc = some c → c.members.length ≤ maxLen ∧ (∀ i, i < c.members.length → (c.members.getD i mbr0).addr.size ≤ maxLen) ∧ c.goneAddr.size ≤ maxLen := by
  rcases open_ptr_fields Try.underlying25 Try.underlying45 (hone_of (by kernel_rfl)) (by kernel_rfl) (by decide) h with ⟨rfl, _⟩ | ⟨b, o, n, V, Y, rfl, _, _, hf⟩
  · exact ⟨none, none, rfl, rfl, (fun c hc => by cases hc), (fun c hc => by cases hc)⟩
  obtain ⟨c0, h0⟩ := hf 0 _ rfl
  obtain ⟨c1, h1⟩ := hf 1 _ rfl
  obtain ⟨c2, h2⟩ := hf 2 _ rfl
  obtain ⟨c3, h3⟩ := hf 3 _ rfl
  obtain ⟨c4, h4⟩ := hf 4 _ rfl
  obtain ⟨c5, h5⟩ := hf 5 _ rfl
  obtain ⟨c6, h6⟩ := hf 6 _ rfl
  obtain ⟨c7, h7⟩ := hf 7 _ rfl
  obtain ⟨c8, h8⟩ := hf 8 _ rfl
  obtain ⟨n0, e0, b0⟩ := trod_u64 Try.underlying22 h0
  obtain ⟨n1, e1, b1⟩ := trod_u64 Try.underlying22 h1
  obtain ⟨n2, e2, b2⟩ := trod_u64 Try.underlying22 h2
  obtain ⟨a3, ms, cap3, e3, ha3, hm3, hl3, hi3, hs3⟩ := open_members h3
  obtain ⟨n4, e4, b4⟩ := trod_u64 Try.underlying22 h4
  obtain ⟨s5, e5, _, b5⟩ := DataW.trod_string Try.underlying9 h5
  obtain ⟨x6, e6, _⟩ := DataW.trod_bool Try.underlying4 h6
  obtain ⟨x7, e7, _⟩ := DataW.trod_bool Try.underlying4 h7
  obtain ⟨n8, e8, b8⟩ := trod_u64 Try.underlying22 h8
  simp at e0 e1 e2 e3 e4 e5 e6 e7 e8
  rw [e0] at c0
  rw [e1] at c1
  rw [e2] at c2
  rw [e3] at c3
  rw [e4] at c4
  rw [e5] at c5
  rw [e6] at c6
  rw [e7] at c7
  rw [e8] at c8
  refine ⟨some ⟨b, o, none⟩, some ⟨n0, n1, n2, ms, n4, s5, x6, x7, n8⟩, rfl, ⟨b, o, a3, cap3, rfl, block_lt_of_cell c0, fun j u hj => ?_, hm3, ha3⟩, fun c hc => ?_, fun c hc => ?_⟩
  · unfold Chg.cells cgv at hj
    match j, hj with
    | 0, hj => cases hj; exact c0
    | 1, hj => cases hj; exact c1
    | 2, hj => cases hj; exact c2
    | 3, hj => cases hj; exact c3
    | 4, hj => cases hj; exact c4
    | 5, hj => cases hj; exact c5
    | 6, hj => cases hj; exact c6
    | 7, hj => cases hj; exact c7
    | 8, hj => cases hj; exact c8
    | j + 9, hj => simp at hj
  · cases hc; exact ⟨b0, b1, b2, b4, b8, hi3⟩
  · cases hc; exact ⟨hl3, hs3, b5⟩

set_option maxRecDepth 100000 in
theorem open_apd {fuel : Nat} {cs : List Value} {x : DataW H × List MemPlace} (h : DataW.trod enc Try.prog w base spare held fuel 27 cs = some x) :
    ∃ (A : Apd) (ie : Option Addr) (ce : Nat) (an : Option Addr) (cn : Nat) (ip : Option Addr), cs = apdv A (.slice ie A.entries.length ce) (.slice an A.ends.length cn) (.pointer ip) ∧
      EntsAt w.heap.size w ie A.entries ∧ (ie = none → A.entries = [] ∧ ce = 0) ∧ NumsAt w an A.ends ∧ (an = none → A.ends = [] ∧ cn = 0) ∧ ChgIn w ip A.change ∧ A.wide ∧ A.nums := by
  obtain ⟨hl, n, hf⟩ := struct_fields Try.underlying27 (hone_of (by kernel_rfl)) (by kernel_rfl) h
  obtain ⟨v0, v1, v2, v3, v4, v5, v6, v7, v8, v9, v10, v11, v12, rfl⟩ := list13 hl
  obtain ⟨_, h0⟩ := hf 0 _ rfl
  obtain ⟨_, h1⟩ := hf 1 _ rfl
  obtain ⟨_, h2⟩ := hf 2 _ rfl
  obtain ⟨_, h3⟩ := hf 3 _ rfl
  obtain ⟨_, h4⟩ := hf 4 _ rfl
  obtain ⟨_, h5⟩ := hf 5 _ rfl
  obtain ⟨_, h6⟩ := hf 6 _ rfl
  obtain ⟨_, h7⟩ := hf 7 _ rfl
  obtain ⟨_, h8⟩ := hf 8 _ rfl
  obtain ⟨_, h9⟩ := hf 9 _ rfl
  obtain ⟨_, h10⟩ := hf 10 _ rfl
  obtain ⟨_, h11⟩ := hf 11 _ rfl
  obtain ⟨_, h12⟩ := hf 12 _ rfl
  obtain ⟨n0, e0, b0⟩ := trod_u64 Try.underlying22 h0
  obtain ⟨n1, e1, b1⟩ := trod_u64 Try.underlying22 h1
  obtain ⟨n2, e2, b2⟩ := trod_u64 Try.underlying22 h2
  obtain ⟨n3, e3, b3⟩ := trod_u64 Try.underlying22 h3
  obtain ⟨n4, e4, b4⟩ := trod_u64 Try.underlying22 h4
  obtain ⟨ie, es, ce, e5, hie, hE, hEl, hEn, hEs⟩ := open_entries h5
  obtain ⟨an, ns, cn, e6, han, hN, hNl, hNn⟩ := open_ends h6
  obtain ⟨n7, e7, b7⟩ := trod_u64 Try.underlying22 h7
  obtain ⟨n8, e8, b8⟩ := trod_u64 Try.underlying22 h8
  obtain ⟨ip, oc, e9, hC, hCn, hCw⟩ := open_change h9
  obtain ⟨n10, e10, b10⟩ := trod_u64 Try.underlying22 h10
  obtain ⟨n11, e11, b11⟩ := trod_u64 Try.underlying22 h11
  obtain ⟨n12, e12, b12⟩ := trod_u64 Try.underlying22 h12
  simp at e0 e1 e2 e3 e4 e5 e6 e7 e8 e9 e10 e11 e12
  subst e0 e1 e2 e3 e4 e5 e6 e7 e8 e9 e10 e11 e12
  exact ⟨⟨n0, n1, n2, n3, n4, es, ns, n7, n8, oc, n10, n11, n12⟩, ie, ce, an, cn, ip, rfl, hE, hie, hN, han, hC, ⟨hEl, hEs, hNl, hCw⟩, b0, b1, b2, b3, b4, b7, b8, b10, b11, b12, hCn, hEn, hNn⟩
end
end Go.Proofs.Qxb6616158a
