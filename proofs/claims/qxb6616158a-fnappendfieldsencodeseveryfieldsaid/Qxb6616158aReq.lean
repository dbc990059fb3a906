import Derived.Test.Qxb6616158aEnc
namespace Go.Proofs.Qxb6616158a
open Go.RowKit

/-- The row of bytes at hand, and what has become of the world since (w0, v0). -/
structure Row (base : Nat) (w0 : World) (v0 : Value) (v : Value) (bs : List Nat) (w : World) : Prop where
  own : w.ownsRow base 5 1 v bs.length (bv bs)
  gr : w0.grownBy w v0.ownBlock
  mv : Moved w0 v0 v
  lo : base ≤ w0.heap.size

theorem Row.start {base : Nat} {v : Value} {bs : List Nat} {w : World} (h : w.ownsRow base 5 1 v bs.length (bv bs)) (hb : base ≤ w.heap.size) : Row base w v v bs w := ⟨h, ⟨rfl, rfl, rfl, Nat.le_refl _, fun _ _ _ => rfl⟩, .inl rfl, hb⟩
theorem Row.alloc {base : Nat} {w0 w : World} {v0 v : Value} {bs : List Nat} (h : Row base w0 v0 v bs w) (o : Obj) : Row base w0 v0 v bs (w.alloc o) :=
  ⟨h.own.alloc o, ⟨h.gr.os, h.gr.tape, h.gr.output, by have := h.gr.size; simp; omega, fun k hk hne => by rw [Below.heap_alloc _ _ _ (Nat.lt_of_lt_of_le hk h.gr.size)]; exact h.gr.block k hk hne⟩, h.mv, h.lo⟩
theorem Row.drew {base : Nat} {w0 w : World} {v0 v : Value} {bs : List Nat} (h : Row base w0 v0 v bs w) : Row base w0 v0 v bs w.drew := ⟨h.own, ⟨h.gr.os, h.gr.tape, h.gr.output, h.gr.size, h.gr.block⟩, h.mv, h.lo⟩
theorem Row.size {base : Nat} {w0 w : World} {v0 v : Value} {bs : List Nat} (h : Row base w0 v0 v bs w) : base ≤ w.heap.size := Nat.le_trans h.lo h.gr.size
/-- A block that was there, and is not the row's, reads as it did. -/
theorem Row.block {base : Nat} {w0 w : World} {v0 v : Value} {bs : List Nat} (h : Row base w0 v0 v bs w) {k : Nat} (hk : k < w0.heap.size) (hne : some k ≠ v0.ownBlock) : w.heap[k]? = w0.heap[k]? := h.gr.block k hk hne
theorem Row.cell {base : Nat} {w0 w : World} {v0 v : Value} {bs : List Nat} (h : Row base w0 v0 v bs w) {k : Nat} (j : Nat) (hk : k < w0.heap.size) (hne : some k ≠ v0.ownBlock) : w.cell? ⟨k, j, none⟩ = w0.cell? ⟨k, j, none⟩ := World.cell?_of_block (w := w0) (h.block hk hne)
/-- .. nor is it the row's now. -/
theorem Row.other {base : Nat} {w0 w : World} {v0 v : Value} {bs : List Nat} (h : Row base w0 v0 v bs w) {k : Nat} (hk : k < w0.heap.size) (hne : some k ≠ v0.ownBlock) : some k ≠ v.ownBlock := by
  intro e
  rcases h.mv with m | m
  · exact hne (by rw [e, m])
  · have := m k e.symm; omega
theorem Row.next {base : Nat} {w0 w w' : World} {v0 v : Value} {bs bs' : List Nat} {e : Ending} (h : Row base w0 v0 v bs w) (p : EPost base v bs' w e w') : ∃ v', e = .returned v' ∧ Row base w0 v0 v' bs' w' := by
  obtain ⟨v', rfl, h2, h3, h4⟩ := p
  exact ⟨v', rfl, h2, grown_trans h.gr h.mv h3, h.mv.trans h.gr.size h4, h.lo⟩
theorem Row.post {base : Nat} {w w' : World} {o : Obj} {v0 v : Value} {bs : List Nat} (h : Row base (w.alloc o) v0 v bs w') : EPost base v0 bs w (.returned v) w' := ⟨v, rfl, h.own, grown_alloc h.gr, moved_alloc h.mv⟩

/-- The contracts, in these words. -/
theorem Row.uv {base : Nat} {w0 w : World} {v0 v : Value} {bs : List Nat} (h : Row base w0 v0 v bs w) (x : Nat) (hx : x < 18446744073709551616) (hl : bs.length ≤ 70368744177664) :
    Calls Try.prog 22 #[v, .int .u64 x] w fun e w' => ∃ v', e = .returned v' ∧ Row base w0 v0 v' (bs ++ uv x) w' :=
  (append_uv base v bs x w h.own hx hl h.size).mono fun _ _ p => h.next p
theorem Row.bool {base : Nat} {w0 w : World} {v0 v : Value} {bs : List Nat} (h : Row base w0 v0 v bs w) (b : Bool) (hl : bs.length ≤ 70368744177664) :
    Calls Try.prog 23 #[v, .bool b] w fun e w' => ∃ v', e = .returned v' ∧ Row base w0 v0 v' (bs ++ [if b then 1 else 0]) w' :=
  (append_bool base v bs b w h.own hl h.size).mono fun _ _ p => h.next p
theorem Row.bytes {base : Nat} {w0 w : World} {v0 v : Value} {bs : List Nat} (h : Row base w0 v0 v bs w) (a : Option Addr) (ps : List Nat) (n c : Nat) (hn : ps.length = n) (ha : a = none → ps = [] ∧ c = 0) (hps : BytesAt w a ps)
    (hne : ∀ b off, a = some ⟨b, off, none⟩ → 0 < ps.length → some b ≠ v.ownBlock) (hl : bs.length ≤ 35184372088832) (hpl : n ≤ 35184372088832) :
    Calls Try.prog 28 #[v, .slice a n c] w fun e w' => ∃ v', e = .returned v' ∧ Row base w0 v0 v' (bs ++ encBytes ps) w' := by
  subst hn
  exact (append_bytes base v bs a ps c w h.own ha hps hne hl hpl h.size).mono fun _ _ p => h.next p

theorem BytesAt.alloc {w : World} {a : Option Addr} {ps : List Nat} (h : BytesAt w a ps) (o : Obj) : BytesAt (w.alloc o) a ps := by
  intro i hi
  obtain ⟨b, off, rfl, h1, h2⟩ := h i hi
  exact ⟨b, off, rfl, by simp; omega, by rw [World.cell?_of_block (w := w) (Below.heap_alloc w o b h1)]; exact h2⟩
theorem BytesAt.row {base : Nat} {w0 w : World} {v0 v : Value} {bs : List Nat} {a : Option Addr} {ps : List Nat} (h : BytesAt w0 a ps) (R : Row base w0 v0 v bs w) (hne : ∀ b off, a = some ⟨b, off, none⟩ → 0 < ps.length → some b ≠ v0.ownBlock) : BytesAt w a ps := h.kept R.gr hne

theorem sb_get (s : ByteArray) (i : Nat) (h : i < s.size) : (sb s).getD i 0 = (s.data[i]'h).toNat := by
  have h' : i < s.data.size := h
  simp only [sb, List.getD, List.getElem?_map, Array.getElem?_toList, Array.getElem?_eq_getElem h', Option.map_some, Option.getD_some]
/-- What '[]byte(s)' lays. -/
theorem bytes_new (w : World) (s : ByteArray) (c : Nat) (fr : Nat × Nat) : BytesAt (w.alloc (.cells (bytesRow s c) 5 fr)) (some ⟨w.heap.size, 0, none⟩) (sb s) := by
  intro i hi
  rw [sb_length] at hi
  refine ⟨w.heap.size, 0, rfl, by simp, ?_⟩
  rw [cell_of_row _ _ _ _ _ _ (heap_alloc_new w _), Nat.zero_add, bytesRow_at s c i hi, sb_get s i hi]

theorem own_ne_new {w : World} {base e size n : Nat} {v : Value} {xs : List Value} (h : w.ownsRow base e size v n xs) : some w.heap.size ≠ v.ownBlock := by
  intro hk
  have := (h.lt _ hk.symm).2
  omega

set_option maxRecDepth 100000 in
set_option maxHeartbeats 1000000 in
theorem append_request (base : Nat) (v : Value) (bs : List Nat) (cl : ByteArray) (seq : Nat) (a : Option Addr) (ps : List Nat) (c : Nat) (w : World) (hown : w.ownsRow base 5 1 v bs.length (bv bs)) (hseq : seq < 18446744073709551616) (ha : a = none → ps = [] ∧ c = 0)
    (hps : BytesAt w a ps) (hne : ∀ b off, a = some ⟨b, off, none⟩ → 0 < ps.length → some b ≠ v.ownBlock ∧ b < w.heap.size) (hl : bs.length ≤ 17592186044416) (hcl : cl.size ≤ 1048576) (hpl : ps.length ≤ 1048576) (hb : base ≤ w.heap.size) :
    Calls Try.prog 27 #[v, .agg #[.string cl, .int .u64 seq, .slice a ps.length c]] w (EPost base v (bs ++ (encBytes (sb cl) ++ (uv seq ++ encBytes ps))) w) := by
  have kb := fun (w : World) (s : ByteArray) => run_bytes_of_string (P := Try.prog) w 9 28 5 s Try.underlying9 Try.underlying28 Try.underlying5
  have R0 : Row base (w.alloc (.cells #[.string cl, .int .u64 seq, .slice a ps.length c] 79)) v v bs (w.alloc (.cells #[.string cl, .int .u64 seq, .slice a ps.length c] 79)) := Row.start (hown.alloc _) (by simp; omega)
  have hbx := own_ne_new hown
  go_enter Try.func27, Try.ntmps27
  go_wp2_with fail
  refine (((R0.alloc _).drew).bytes (some ⟨w.heap.size + 1, 0, none⟩) (sb cl) cl.size _ (sb_length cl) (fun h => by cases h) (by have := bytes_new (w.alloc (.cells #[.string cl, .int .u64 seq, .slice a ps.length c] 79)) cl; simp only [World.size_alloc] at this; exact this _ _) (fun b off e _ => by cases e; exact fun e => by have := (hown.lt _ e.symm).2; omega) (by omega) (by omega)).mono ?_
  rintro e w1 ⟨v1, rfl, R1⟩
  have hw0 : w.heap.size < (w.alloc (.cells #[.string cl, .int .u64 seq, .slice a ps.length c] 79)).heap.size := by simp
  have hl1 : (bs ++ encBytes (sb cl)).length ≤ bs.length + 1048586 := by rw [List.length_append, encBytes, List.length_append, sb_length]; have := uv_length (sb cl).length; rw [sb_length] at this; omega
  have c1 : w1.cell? ⟨w.heap.size, 1, none⟩ = some (.int .u64 seq) := by rw [R1.cell 1 hw0 hbx]; simp
  go_wp2_with fail
  refine (R1.uv seq hseq (by omega)).mono ?_
  rintro e w2 ⟨v2, rfl, R2⟩
  have hl2 : ((bs ++ encBytes (sb cl)) ++ uv seq).length ≤ bs.length + 1048596 := by rw [List.length_append]; have := uv_length seq; omega
  have c2 : w2.cell? ⟨w.heap.size, 2, none⟩ = some (.slice a ps.length c) := by rw [R2.cell 2 hw0 hbx]; simp
  have hp2 : BytesAt w2 a ps := (hps.alloc _).row R2 (fun b off e h => (hne b off e h).1)
  have hn2 : ∀ b off, a = some ⟨b, off, none⟩ → 0 < ps.length → some b ≠ v2.ownBlock := fun b off e h => R2.other (by have := (hne b off e h).2; omega) (hne b off e h).1
  clear hw0 c1 R1 hps hne kb
  go_wp2_with fail
  refine (R2.bytes a ps ps.length c rfl ha hp2 hn2 (by omega) (by omega)).mono ?_
  rintro e w3 ⟨v3, rfl, R3⟩
  go_wp2
  go_ret
  have := R3.post
  simp only [List.append_assoc] at this
  exact this
theorem Row.request {base : Nat} {w0 w : World} {v0 v : Value} {bs : List Nat} (h : Row base w0 v0 v bs w) (cl : ByteArray) (seq : Nat) (a : Option Addr) (ps : List Nat) (c : Nat) (hseq : seq < 18446744073709551616) (ha : a = none → ps = [] ∧ c = 0)
    (hps : BytesAt w a ps) (hne : ∀ b off, a = some ⟨b, off, none⟩ → 0 < ps.length → some b ≠ v.ownBlock ∧ b < w.heap.size) (hl : bs.length ≤ 17592186044416) (hcl : cl.size ≤ 1048576) (hpl : ps.length ≤ 1048576) :
    Calls Try.prog 27 #[v, .agg #[.string cl, .int .u64 seq, .slice a ps.length c]] w fun e w' => ∃ v', e = .returned v' ∧ Row base w0 v0 v' (bs ++ (encBytes (sb cl) ++ (_root_.Go.Proofs.Qxb6616158a.uv seq ++ encBytes ps))) w' :=
  (append_request base v bs cl seq a ps c w h.own hseq ha hps hne hl hcl hpl h.size).mono fun _ _ p => h.next p

set_option maxRecDepth 100000 in
set_option maxHeartbeats 1000000 in
theorem append_entry (base : Nat) (v : Value) (bs : List Nat) (pos epoch : Nat) (cl : ByteArray) (seq : Nat) (a : Option Addr) (ps : List Nat) (c : Nat) (w : World) (hown : w.ownsRow base 5 1 v bs.length (bv bs)) (hpos : pos < 18446744073709551616) (hep : epoch < 18446744073709551616) (hseq : seq < 18446744073709551616) (ha : a = none → ps = [] ∧ c = 0)
    (hps : BytesAt w a ps) (hne : ∀ b off, a = some ⟨b, off, none⟩ → 0 < ps.length → some b ≠ v.ownBlock ∧ b < w.heap.size) (hl : bs.length ≤ 8796093022208) (hcl : cl.size ≤ 1048576) (hpl : ps.length ≤ 1048576) (hb : base ≤ w.heap.size) :
    Calls Try.prog 25 #[v, .agg #[.int .u64 pos, .int .u64 epoch, .string cl, .int .u64 seq, .slice a ps.length c]] w (EPost base v (bs ++ encEnt ⟨pos, epoch, cl, seq, ps⟩) w) := by
  have R0 : Row base (w.alloc (.cells #[.int .u64 pos, .int .u64 epoch, .string cl, .int .u64 seq, .slice a ps.length c] 56)) v v bs (w.alloc (.cells #[.int .u64 pos, .int .u64 epoch, .string cl, .int .u64 seq, .slice a ps.length c] 56)) := Row.start (hown.alloc _) (by simp; omega)
  have hbx := own_ne_new hown
  have hw0 : w.heap.size < (w.alloc (.cells #[.int .u64 pos, .int .u64 epoch, .string cl, .int .u64 seq, .slice a ps.length c] 56)).heap.size := by simp
  have hu1 := uv_length pos
  have hu2 := uv_length epoch
  go_enter Try.func25, Try.ntmps25
  go_wp2_with fail
  refine (R0.uv pos hpos (by omega)).mono ?_
  rintro e w1 ⟨v1, rfl, R1⟩
  have hl1 : (bs ++ uv pos).length ≤ bs.length + 10 := by rw [List.length_append]; omega
  have c1 : w1.cell? ⟨w.heap.size, 1, none⟩ = some (.int .u64 epoch) := by rw [R1.cell 1 hw0 hbx]; simp
  go_wp2_with fail
  refine (R1.uv epoch hep (by omega)).mono ?_
  rintro e w2 ⟨v2, rfl, R2⟩
  have hl2 : ((bs ++ uv pos) ++ uv epoch).length ≤ bs.length + 20 := by rw [List.length_append]; omega
  have d2 : w2.cell? ⟨w.heap.size, 2, none⟩ = some (.string cl) := by rw [R2.cell 2 hw0 hbx]; simp
  have d3 : w2.cell? ⟨w.heap.size, 3, none⟩ = some (.int .u64 seq) := by rw [R2.cell 3 hw0 hbx]; simp
  have d4 : w2.cell? ⟨w.heap.size, 4, none⟩ = some (.slice a ps.length c) := by rw [R2.cell 4 hw0 hbx]; simp
  have hp2 : BytesAt w2 a ps := (hps.alloc _).row R2 (fun b off e h => (hne b off e h).1)
  have hz2 := R2.gr.size
  have hn2 : ∀ b off, a = some ⟨b, off, none⟩ → 0 < ps.length → some b ≠ v2.ownBlock ∧ b < w2.heap.size := fun b off e h => ⟨R2.other (by have := (hne b off e h).2; omega) (hne b off e h).1, by have := (hne b off e h).2; omega⟩
  clear hw0 c1 R1 hps hne
  go_wp2_with fail
  refine (R2.request cl seq a ps c hseq ha hp2 hn2 (by omega) hcl hpl).mono ?_
  rintro e w3 ⟨v3, rfl, R3⟩
  go_wp2
  go_ret
  have := R3.post
  simp only [List.append_assoc] at this
  exact this
theorem Row.entry {base : Nat} {w0 w : World} {v0 v : Value} {bs : List Nat} (h : Row base w0 v0 v bs w) (pos epoch : Nat) (cl : ByteArray) (seq : Nat) (a : Option Addr) (ps : List Nat) (c : Nat) (hpos : pos < 18446744073709551616) (hep : epoch < 18446744073709551616) (hseq : seq < 18446744073709551616) (ha : a = none → ps = [] ∧ c = 0)
    (hps : BytesAt w a ps) (hne : ∀ b off, a = some ⟨b, off, none⟩ → 0 < ps.length → some b ≠ v.ownBlock ∧ b < w.heap.size) (hl : bs.length ≤ 8796093022208) (hcl : cl.size ≤ 1048576) (hpl : ps.length ≤ 1048576) :
    Calls Try.prog 25 #[v, .agg #[.int .u64 pos, .int .u64 epoch, .string cl, .int .u64 seq, .slice a ps.length c]] w fun e w' => ∃ v', e = .returned v' ∧ Row base w0 v0 v' (bs ++ encEnt ⟨pos, epoch, cl, seq, ps⟩) w' :=
  (append_entry base v bs pos epoch cl seq a ps c w h.own hpos hep hseq ha hps hne hl hcl hpl h.size).mono fun _ _ p => h.next p
end Go.Proofs.Qxb6616158a
