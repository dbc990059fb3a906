import Derived.Test.Qxb6616158aChg
namespace Go.Proofs.Qxb6616158a
open Go.RowKit

/-- Below block number base the two worlds agree. -/
def Agree (base : Nat) (w w' : World) : Prop := ∀ k, k < base → w'.heap[k]? = w.heap[k]?
theorem Agree.refl (base : Nat) (w : World) : Agree base w w := fun _ _ => rfl
theorem Agree.trans {base : Nat} {a b c : World} (h : Agree base a b) (k : Agree base b c) : Agree base a c := fun i hi => (k i hi).trans (h i hi)
theorem Agree.cell {base : Nat} {w w' : World} (h : Agree base w w') {b : Nat} (hb : b < base) (j : Nat) : w'.cell? ⟨b, j, none⟩ = w.cell? ⟨b, j, none⟩ := World.cell?_of_block (w := w) (h b hb)
theorem Agree.of_below {base : Nat} {w w' : World} (h : Below base w w') : Agree base w w' := h.block
theorem Row.agree {base : Nat} {w0 w : World} {v0 v : Value} {bs : List Nat} (h : Row base w0 v0 v bs w) (hv : ∀ k, v0.ownBlock = some k → base ≤ k) : Agree base w0 w := fun k hk =>
  h.block (Nat.lt_of_lt_of_le hk h.lo) (fun e => by have := hv k e.symm; omega)

/-- A payload in memory, below base. -/
def PayAt (base : Nat) (w : World) (a : Option Addr) (c : Nat) (ps : List Nat) : Prop :=
  (a = none → ps = [] ∧ c = 0) ∧ ∀ i, i < ps.length → ∃ b off, a = some ⟨b, off, none⟩ ∧ b < base ∧ w.cell? ⟨b, off + i, none⟩ = some (.int .u8 ((ps.getD i 0 : Nat) : Int))
theorem PayAt.agree {base : Nat} {w w' : World} {a : Option Addr} {c : Nat} {ps : List Nat} (h : PayAt base w a c ps) (k : Agree base w w') : PayAt base w' a c ps :=
  ⟨h.1, fun i hi => by obtain ⟨b, off, e, hb, hc⟩ := h.2 i hi; exact ⟨b, off, e, hb, by rw [k.cell hb]; exact hc⟩⟩
theorem PayAt.bytes {base : Nat} {w : World} {a : Option Addr} {c : Nat} {ps : List Nat} (h : PayAt base w a c ps) (hb : base ≤ w.heap.size) : BytesAt w a ps := fun i hi => by
  obtain ⟨b, off, e, hb', hc⟩ := h.2 i hi
  exact ⟨b, off, e, by omega, hc⟩
theorem PayAt.lo {base : Nat} {w : World} {a : Option Addr} {c : Nat} {ps : List Nat} (h : PayAt base w a c ps) (b off : Nat) (e : a = some ⟨b, off, none⟩) (hp : 0 < ps.length) : b < base := by
  obtain ⟨b', off', e', hb, _⟩ := h.2 0 hp
  rw [e] at e'; cases e'; exact hb

def ent0 : Ent := ⟨0, 0, ⟨#[]⟩, 0, []⟩
/-- An entry, cell by cell, its payload's slice in place. -/
def env (e : Ent) (p : Value) : List Value := [.int .u64 (e.pos : Int), .int .u64 (e.epoch : Int), .string e.client, .int .u64 (e.seq : Int), p]
def Ent.fit (e : Ent) : Prop := e.pos < 18446744073709551616 ∧ e.epoch < 18446744073709551616 ∧ e.client.size ≤ 1048576 ∧ e.seq < 18446744073709551616 ∧ e.payload.length ≤ 1048576
def EntsAt (base : Nat) (w : World) (a : Option Addr) (es : List Ent) : Prop :=
  ∀ i, i < es.length → ∃ b off ap cp, a = some ⟨b, off, none⟩ ∧ b < base ∧ PayAt base w ap cp (es.getD i ent0).payload ∧
    ∀ j u, (env (es.getD i ent0) (.slice ap (es.getD i ent0).payload.length cp))[j]? = some u → w.cell? ⟨b, off + i * 5 + j, none⟩ = some u
theorem EntsAt.agree {base : Nat} {w w' : World} {a : Option Addr} {es : List Ent} (h : EntsAt base w a es) (k : Agree base w w') : EntsAt base w' a es := fun i hi => by
  obtain ⟨b, off, ap, cp, e, hb, hp, hc⟩ := h i hi
  exact ⟨b, off, ap, cp, e, hb, hp.agree k, fun j u hj => by rw [k.cell hb]; exact hc j u hj⟩

def EndsAt (base : Nat) (w : World) (a : Option Addr) (es : List Nat) : Prop :=
  ∀ i, i < es.length → ∃ b off, a = some ⟨b, off, none⟩ ∧ b < base ∧ w.cell? ⟨b, off + i, none⟩ = some (.int .u64 ((es.getD i 0 : Nat) : Int))
theorem EndsAt.agree {base : Nat} {w w' : World} {a : Option Addr} {es : List Nat} (h : EndsAt base w a es) (k : Agree base w w') : EndsAt base w' a es := fun i hi => by
  obtain ⟨b, off, e, hb, hc⟩ := h i hi
  exact ⟨b, off, e, hb, by rw [k.cell hb]; exact hc⟩

def MbrsIn (base : Nat) (w : World) (a : Option Addr) (ms : List Mbr) : Prop :=
  ∀ i, i < ms.length → ∃ b off, a = some ⟨b, off, none⟩ ∧ b < base ∧ ∀ j u, (mbv (ms.getD i mbr0))[j]? = some u → w.cell? ⟨b, off + i * 4 + j, none⟩ = some u
theorem MbrsIn.agree {base : Nat} {w w' : World} {a : Option Addr} {ms : List Mbr} (h : MbrsIn base w a ms) (k : Agree base w w') : MbrsIn base w' a ms := fun i hi => by
  obtain ⟨b, off, e, hb, hc⟩ := h i hi
  exact ⟨b, off, e, hb, fun j u hj => by rw [k.cell hb]; exact hc j u hj⟩
theorem MbrsIn.at {base : Nat} {w : World} {a : Option Addr} {ms : List Mbr} (h : MbrsIn base w a ms) (hb : base ≤ w.heap.size) : MbrsAt w a ms := fun i hi => by
  obtain ⟨b, off, e, hb', hc⟩ := h i hi
  exact ⟨b, off, e, by omega, hc⟩
theorem MbrsIn.lo {base : Nat} {w : World} {a : Option Addr} {ms : List Mbr} (h : MbrsIn base w a ms) (b off : Nat) (e : a = some ⟨b, off, none⟩) (hp : 0 < ms.length) : b < base := by
  obtain ⟨b', off', e', hb, _⟩ := h 0 hp
  rw [e] at e'; cases e'; exact hb

def Chg.fit (c : Chg) : Prop := c.number < 18446744073709551616 ∧ c.epoch < 18446744073709551616 ∧ c.after < 18446744073709551616 ∧ c.goneID < 18446744073709551616 ∧ c.goneAddr.size ≤ 1048576 ∧ c.group < 18446744073709551616 ∧ (∀ m ∈ c.members, m.fit) ∧ c.members.length ≤ 1048576
def Chg.cells (c : Chg) (mem : Value) : List Value := cgv c.number c.epoch c.after mem c.goneID c.goneAddr c.goneCounts c.goneNonvoter c.group
/-- A change behind its pointer. -/
def ChgAt (base : Nat) (w : World) (p : Option Addr) : Option Chg → Prop
  | none => p = none
  | some c => ∃ g am cm, p = some ⟨g, 0, none⟩ ∧ g < base ∧ (∀ j u, (c.cells (.slice am c.members.length cm))[j]? = some u → w.cell? ⟨g, j, none⟩ = some u) ∧ MbrsIn base w am c.members

/-- The encoding of an Append. -/
def encApd (A : Apd) : List Nat := uv A.ticket ++ (uv A.epoch ++ (uv A.start ++ (uv A.prev ++ (uv A.prevEpoch ++ (uv A.commit ++ (uv A.held ++ (uv A.changes ++ (uv A.changed ++ (uv A.read ++ (encOpt A.change ++ (uv A.entries.length ++ (encEnts A.entries ++ (uv A.ends.length ++ encEnds A.ends)))))))))))))
def Apd.fit (A : Apd) : Prop := A.ticket < 18446744073709551616 ∧ A.epoch < 18446744073709551616 ∧ A.start < 18446744073709551616 ∧ A.prev < 18446744073709551616 ∧ A.prevEpoch < 18446744073709551616 ∧ A.commit < 18446744073709551616 ∧ A.held < 18446744073709551616 ∧
  A.changes < 18446744073709551616 ∧ A.changed < 18446744073709551616 ∧ A.read < 18446744073709551616 ∧ (∀ c, A.change = some c → c.fit) ∧ (∀ e ∈ A.entries, e.fit) ∧ A.entries.length ≤ 1048576 ∧ (∀ x ∈ A.ends, x < 18446744073709551616) ∧ A.ends.length ≤ 1048576
/-- An Append, cell by cell. -/
def apdv (A : Apd) (ent ends chg : Value) : List Value := [.int .u64 (A.ticket : Int), .int .u64 (A.epoch : Int), .int .u64 (A.start : Int), .int .u64 (A.prev : Int), .int .u64 (A.prevEpoch : Int), ent, ends, .int .u64 (A.commit : Int), .int .u64 (A.held : Int), chg, .int .u64 (A.changes : Int), .int .u64 (A.changed : Int), .int .u64 (A.read : Int)]
def ApdAt (base : Nat) (w : World) (P : Nat) (A : Apd) : Prop :=
  ∃ ae ce an cn pc, P < base ∧ (∀ j u, (apdv A (.slice ae A.entries.length ce) (.slice an A.ends.length cn) (.pointer pc))[j]? = some u → w.cell? ⟨P, j, none⟩ = some u) ∧ EntsAt base w ae A.entries ∧ EndsAt base w an A.ends ∧ ChgAt base w pc A.change

theorem encEnt_len (e : Ent) (h : e.fit) : (encEnt e).length ≤ 2097202 := by
  obtain ⟨_, _, h3, _, h5⟩ := h
  have h1 := uv_length e.pos
  have h2 := uv_length e.epoch
  have h4 := uv_length (sb e.client).length
  have h6 := uv_length e.seq
  have h7 := uv_length e.payload.length
  simp only [encEnt, encBytes, List.length_append, sb_length] at h4 ⊢
  omega
theorem encEnts_snoc (es : List Ent) (k : Nat) (h : k < es.length) : encEnts (es.take (k + 1)) = encEnts (es.take k) ++ encEnt (es.getD k ent0) := by
  unfold encEnts
  rw [List.take_succ_eq_append_getElem h, List.flatMap_append]
  simp [List.getD, List.getElem?_eq_getElem h]
theorem encEnts_len (es : List Ent) (h : ∀ m ∈ es, m.fit) : (encEnts es).length ≤ es.length * 2097202 := by
  induction es with
  | nil => simp [encEnts]
  | cons m es ih =>
    have h1 := encEnt_len m (h m (List.mem_cons_self ..))
    have h2 := ih fun x hx => h x (List.mem_cons_of_mem _ hx)
    simp only [encEnts, List.flatMap_cons, List.length_append, List.length_cons] at h2 ⊢
    omega
theorem encEnds_snoc (es : List Nat) (k : Nat) (h : k < es.length) : encEnds (es.take (k + 1)) = encEnds (es.take k) ++ uv (es.getD k 0) := by
  unfold encEnds
  rw [List.take_succ_eq_append_getElem h, List.flatMap_append]
  simp [List.getD, List.getElem?_eq_getElem h]
theorem encEnds_len (es : List Nat) : (encEnds es).length ≤ es.length * 10 := by
  induction es with
  | nil => simp [encEnds]
  | cons m es ih =>
    have h1 := uv_length m
    simp only [encEnds, List.flatMap_cons, List.length_append, List.length_cons] at ih ⊢
    omega
theorem encChgIn_len (c : Chg) (h : c.fit) : (encChgIn c).length ≤ 1099600000000 := by
  obtain ⟨_, _, _, _, h5, _, h7, h8⟩ := h
  have e1 := uv_length c.number
  have e2 := uv_length c.epoch
  have e3 := uv_length c.after
  have e4 := uv_length c.members.length
  have e5 := uv_length c.goneID
  have e6 := uv_length (sb c.goneAddr).length
  have e7 := encMbrs_len c.members h7
  have e8 := uv_length c.group
  simp only [encChgIn, encChg, encBytes, List.length_append, sb_length] at e6 ⊢
  omega
theorem Row.changeIn {base : Nat} {w0 w : World} {v0 v : Value} {bs : List Nat} (h : Row base w0 v0 v bs w) (c : Chg) (am : Option Addr) (cm : Nat) (hf : c.fit) (hms : MbrsAt w am c.members)
    (hne : ∀ b off, am = some ⟨b, off, none⟩ → 0 < c.members.length → some b ≠ v.ownBlock) (hl : bs.length ≤ 2097152) :
    Calls Try.prog 24 #[v, .agg (c.cells (.slice am c.members.length cm)).toArray] w fun e w' => ∃ v', e = .returned v' ∧ Row base w0 v0 v' (bs ++ encChgIn c) w' := by
  obtain ⟨h1, h2, h3, h4, h5, h6, h7, h8⟩ := hf
  exact (append_changeIn base v bs c.number c.epoch c.after am c.members cm c.goneID c.goneAddr c.goneCounts c.goneNonvoter c.group w h.own h1 h2 h3 h4 h5 h6 hms h7 h8 hne hl h.size).mono fun _ _ p => h.next p
end Go.Proofs.Qxb6616158a
