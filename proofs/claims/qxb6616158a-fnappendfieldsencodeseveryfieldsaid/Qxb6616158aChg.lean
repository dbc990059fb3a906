import Derived.Test.Qxb6616158aReq
namespace Go.Proofs.Qxb6616158a
open Go.RowKit

theorem Row.join {base : Nat} {w0 w w' : World} {o : Obj} {v0 v v' : Value} {bs bs' : List Nat} (h : Row base w0 v0 v bs w) (k : Row base (w.alloc o) v v' bs' w') : Row base w0 v0 v' bs' w' := by
  obtain ⟨v'', e, r⟩ := h.next k.post
  cases e
  exact r
theorem Row.pushed {base : Nat} {w0 w w' : World} {o : Obj} {v0 v v' : Value} {bs : List Nat} {n : Nat} (h : Row base w0 v0 v bs w) (own : w'.ownsRow base 5 1 v' (bs.length + 1) (bv bs ++ [.int .u8 (n : Int)])) (gr : (w.alloc o).grownBy w' v.ownBlock) (mv : Moved (w.alloc o) v v') : Row base w0 v0 v' (bs ++ [n]) w' :=
  ⟨by rw [bv_append, List.length_append]; exact own, grown_trans h.gr h.mv (grown_alloc gr), h.mv.trans h.gr.size (moved_alloc mv), h.lo⟩

/-- A member, cell by cell. -/
def mbv (m : Mbr) : List Value := [.int .u64 (m.id : Int), .string m.addr, .bool m.counts, .bool m.nonvoter]
def Mbr.fit (m : Mbr) : Prop := m.id < 18446744073709551616 ∧ m.addr.size ≤ 1048576
def mbr0 : Mbr := ⟨0, ⟨#[]⟩, false, false⟩
/-- Members in memory. -/
def MbrsAt (w : World) (a : Option Addr) (ms : List Mbr) : Prop :=
  ∀ i, i < ms.length → ∃ b off, a = some ⟨b, off, none⟩ ∧ b < w.heap.size ∧ ∀ j u, (mbv (ms.getD i mbr0))[j]? = some u → w.cell? ⟨b, off + i * 4 + j, none⟩ = some u

theorem encMbr_len (m : Mbr) (h : m.fit) : (encMbr m).length ≤ 1048597 := by
  unfold encMbr encBytes
  have h1 := uv_length m.id
  have h2 := uv_length (sb m.addr).length
  have h3 := h.2
  simp only [List.length_append, List.length_cons, sb_length] at h2 ⊢
  omega
theorem encMbrs_snoc (ms : List Mbr) (k : Nat) (h : k < ms.length) : encMbrs (ms.take (k + 1)) = encMbrs (ms.take k) ++ encMbr (ms.getD k mbr0) := by
  unfold encMbrs
  rw [List.take_succ_eq_append_getElem h, List.flatMap_append]
  simp [List.getD, List.getElem?_eq_getElem h]
theorem encMbrs_len (ms : List Mbr) (h : ∀ m ∈ ms, m.fit) : (encMbrs ms).length ≤ ms.length * 1048597 := by
  induction ms with
  | nil => simp [encMbrs]
  | cons m ms ih =>
    have h1 := encMbr_len m (h m (List.mem_cons_self ..))
    have h2 := ih fun x hx => h x (List.mem_cons_of_mem _ hx)
    simp only [encMbrs, List.flatMap_cons, List.length_append, List.length_cons] at h2 ⊢
    omega

/-- A change as appendChange gets it: cell by cell. -/
def cgv (number epoch after : Nat) (mem : Value) (gid : Nat) (gad : ByteArray) (gc gn : Bool) (group : Nat) : List Value :=
  [.int .u64 (number : Int), .int .u64 (epoch : Int), .int .u64 (after : Int), mem, .int .u64 (gid : Int), .string gad, .bool gc, .bool gn, .int .u64 (group : Int)]

set_option maxRecDepth 100000 in
set_option maxHeartbeats 4000000 in
theorem append_change (base : Nat) (v : Value) (bs : List Nat) (number epoch after : Nat) (am : Option Addr) (ms : List Mbr) (cm : Nat) (gid : Nat) (gad : ByteArray) (gc gn : Bool) (group : Nat) (w : World) (hown : w.ownsRow base 5 1 v bs.length (bv bs))
    (h1 : number < 18446744073709551616) (h2 : epoch < 18446744073709551616) (h3 : after < 18446744073709551616) (h4 : gid < 18446744073709551616) (h5 : gad.size ≤ 1048576) (hms : MbrsAt w am ms) (hfit : ∀ m ∈ ms, m.fit) (hml : ms.length ≤ 1048576)
    (hne : ∀ b off, am = some ⟨b, off, none⟩ → 0 < ms.length → some b ≠ v.ownBlock) (hl : bs.length ≤ 2097152) (hb : base ≤ w.heap.size) :
    Calls Try.prog 26 #[v, .agg (cgv number epoch after (.slice am ms.length cm) gid gad gc gn group).toArray] w (EPost base v (bs ++ encChg ⟨number, epoch, after, ms, gid, gad, gc, gn, group⟩) w) := by
  unfold cgv
  have kb := fun (w : World) (s : ByteArray) => run_bytes_of_string (P := Try.prog) w 9 28 5 s Try.underlying9 Try.underlying28 Try.underlying5
  obtain ⟨i0, hi, hz0, hz1, hz2⟩ := info_parts Try.info5
  have hbx := own_ne_new hown
  generalize hBx : Obj.cells (cgv number epoch after (.slice am ms.length cm) gid gad gc gn group).toArray 64 = Bx
  have R0 : Row base (w.alloc Bx) v v bs (w.alloc Bx) := Row.start (hown.alloc _) (by simp; omega)
  have hw0 : w.heap.size < (w.alloc Bx).heap.size := by simp
  have hu1 := uv_length number
  have hu2 := uv_length epoch
  have hu3 := uv_length after
  have hu4 := uv_length ms.length
  have bxc : ∀ {v' : Value} {bs' : List Nat} {w' : World}, Row base (w.alloc Bx) v v' bs' w' → ∀ j u, (cgv number epoch after (.slice am ms.length cm) gid gad gc gn group)[j]? = some u → w'.cell? ⟨w.heap.size, j, none⟩ = some u := fun R j u hj => by
    rw [R.cell j hw0 hbx, ← hBx, cell_of_row _ _ _ _ _ _ (heap_alloc_new w _)]
    simpa using hj
  have hms0 : ∀ {v' : Value} {bs' : List Nat} {w' : World}, Row base (w.alloc Bx) v v' bs' w' → MbrsAt w' am ms ∧ (∀ b off, am = some ⟨b, off, none⟩ → 0 < ms.length → some b ≠ v'.ownBlock) := fun R => by
    refine ⟨fun i hi => ?_, fun b off e hp => ?_⟩
    · obtain ⟨b, off, rfl, hb, hc⟩ := hms i hi
      refine ⟨b, off, rfl, by have := R.gr.size; simp at this; omega, fun j u hj => ?_⟩
      rw [R.cell _ (by simp; omega) (hne b off rfl (by omega)), World.cell?_of_block (w := w) (Below.heap_alloc w Bx b hb)]
      exact hc j u hj
    · obtain ⟨b', off', e', hb, _⟩ := hms 0 hp
      rw [e] at e'; cases e'
      exact R.other (by simp; omega) (hne b off e hp)
  have HBx : Hid (Obj.cells #[.int .u64 (number : Int), .int .u64 (epoch : Int), .int .u64 (after : Int), .slice am ms.length cm, .int .u64 (gid : Int), .string gad, .bool gc, .bool gn, .int .u64 (group : Int)] 64 = Bx) := hBx
  clear hBx
  go_enter Try.func26, Try.ntmps26
  go_wp2_with fail
  rw [HBx.out]
  refine (R0.uv number h1 (by omega)).mono ?_
  rintro e w1 ⟨v1, rfl, R1⟩
  have hl1 : (bs ++ uv number).length ≤ bs.length + 10 := by rw [List.length_append]; omega
  have c1 := bxc R1 1 _ rfl
  go_wp2_with fail
  refine (R1.uv epoch h2 (by omega)).mono ?_
  rintro e w2 ⟨v2, rfl, R2⟩
  have hl2 : ((bs ++ uv number) ++ uv epoch).length ≤ bs.length + 20 := by rw [List.length_append]; omega
  have c2 := bxc R2 2 _ rfl
  clear R1 c1
  go_wp2_with fail
  refine (R2.uv after h3 (by omega)).mono ?_
  rintro e w3 ⟨v3, rfl, R3⟩
  have hl3 : (((bs ++ uv number) ++ uv epoch) ++ uv after).length ≤ bs.length + 30 := by rw [List.length_append]; omega
  have c3 := bxc R3 3 _ rfl
  clear R2 c2
  go_wp2_with fail
  refine (R3.uv ms.length (by omega) (by omega)).mono ?_
  rintro e w4 ⟨v4, rfl, R4⟩
  have hl4 : ((((bs ++ uv number) ++ uv epoch) ++ uv after) ++ uv ms.length).length ≤ bs.length + 40 := by rw [List.length_append]; omega
  have c4 := bxc R4 3 _ rfl
  clear R3 c3 hl1 hl2 hl3
  have HB : Hid (bs ++ encChg ⟨number, epoch, after, ms, gid, gad, gc, gn, group⟩ = ((((bs ++ uv number) ++ uv epoch) ++ uv after) ++ uv ms.length) ++ (encMbrs ms ++ (uv gid ++ encBytes (sb gad)))) := by show _ = _; simp [encChg]
  generalize ((((bs ++ uv number) ++ uv epoch) ++ uv after) ++ uv ms.length) = B4 at *
  go_wp2
  go_loopw [0, 29] (fun u i wr => ∃ k : Nat, k ≤ ms.length ∧ i = .int .i64 k ∧ Row base (w.alloc Bx) v u (B4 ++ encMbrs (ms.take k)) wr) (fun _ i _ => ms.length - (intOf i).toNat)
  case atStart => exact ⟨0, Nat.zero_le _, rfl, by simpa [encMbrs] using R4⟩
  case round =>
    obtain ⟨k, hk, rfl, R⟩ := hrel
    have hlk := encMbrs_len (ms.take k) (fun m hm => hfit m (List.mem_of_mem_take hm))
    have hlk2 : (B4 ++ encMbrs (ms.take k)).length = B4.length + (encMbrs (ms.take k)).length := List.length_append
    have hlk3 : (ms.take k).length ≤ k := List.length_take_le _ _
    have hBl : (B4 ++ encMbrs (ms.take k)).length ≤ 1099600000000 := by omega
    clear hlk hlk2 hlk3
    by_cases hlt : k < ms.length
    · obtain ⟨hma, hmn⟩ := hms0 R
      obtain ⟨b, off, rfl, hbl, hcs⟩ := hma k hlt
      have HS : Hid (encMbrs (ms.take (k + 1)) = encMbrs (ms.take k) ++ encMbr (ms.getD k mbr0)) := encMbrs_snoc ms k hlt
      have hf : (ms.getD k mbr0).fit := hfit _ (by simp [List.getD, List.getElem?_eq_getElem hlt])
      generalize ms.getD k mbr0 = m at *
      obtain ⟨mid, mad, mc, mn⟩ := m
      have d0 := hcs 0 _ rfl
      have d1 := hcs 1 _ rfl
      have d2 := hcs 2 _ rfl
      have d3 := hcs 3 _ rfl
      simp only [Nat.add_zero] at d0
      generalize hBk : B4 ++ encMbrs (ms.take k) = Bk at *
      have hbm := own_ne_new R.own
      have hsz := R.size
      have hu5 := uv_length mid
      have hf1 := hf.1
      have hf2 := hf.2
      simp only at hf1 hf2
      clear hms0 bxc hcs c4 R4 hf
      cases mc <;> cases mn
      all_goals
        go_wp2_with fail
        refine ((Row.start (R.own.alloc _) (by simp; omega)).uv mid hf1 (by omega)).mono ?_
        rintro e w5 ⟨v5, rfl, R5⟩
        have hl5 : (Bk ++ uv mid).length ≤ Bk.length + 10 := by rw [List.length_append]; omega
        have hs5 := R5.size
        go_wp2_with (at_builtin; refine wpList_append_row _ rfl _ _ 28 rfl base 5 i0 _ 1 1 Try.underlying28 hi hz0 hz1 hz2 rfl (by decide) _ _ _ rfl (R5.own.alloc _) ⟨w5.heap.size, 0, none⟩ 1 1 _ rfl rfl (one_cells w5 _) (one_one _) (by unfold maxLen; omega) (by omega) (by simp; omega) ?_; intro v6 w6 hown6 hgr6 hmv6; have R6 := R5.pushed hown6 hgr6 hmv6; have c6 := R6.cell (k := wr.heap.size) 1 (by simp) hbm; simp at c6)
        have hl6 : ∀ n : Nat, ((Bk ++ uv mid) ++ [n]).length ≤ Bk.length + 11 := fun n => by rw [List.length_append]; simp; omega
        refine (((R6.alloc _).drew).bytes (some ⟨w6.heap.size, 0, none⟩) (sb mad) mad.size _ (sb_length mad) (fun h => by cases h) (bytes_new w6 mad _ _) (fun b off e _ => by cases e; exact own_ne_new R6.own) (Nat.le_trans (hl6 _) (by omega)) (by omega)).mono ?_
        rintro e w7 ⟨v7, rfl, R7⟩
        have R8 := R.join R7
        rw [← hBk] at R8
        have R9 : ∀ (n : Nat) (l : List Nat), B4 ++ encMbrs (ms.take k) ++ uv mid ++ [n] ++ l = B4 ++ (encMbrs (ms.take k) ++ (uv mid ++ (n :: l))) := fun n l => by simp
        rw [R9] at R8
        clear R9 R5 R6 R7 hown6 hgr6 hmv6 hl6 c6
        go_wp2
        go_roundw
        case rel => exact ⟨k + 1, by omega, by go_num, by rw [HS.out]; exact R8⟩
        case measure => simp [intOf]; omega
    · obtain rfl : k = ms.length := by omega
      rw [List.take_length] at R hBl
      have d4 := bxc R 4 _ rfl
      have d5 := bxc R 5 _ rfl
      clear hms0 c4 R4
      go_wp2_with fail
      refine (R.uv gid h4 (by omega)).mono ?_
      rintro e w5 ⟨v5, rfl, R5⟩
      have hl5 : (B4 ++ encMbrs ms ++ uv gid).length ≤ 1099600000010 := by rw [List.length_append]; have := uv_length gid; omega
      have e5 := bxc R5 5 _ rfl
      clear bxc
      go_wp2_with fail
      refine (((R5.alloc _).drew).bytes (some ⟨w5.heap.size, 0, none⟩) (sb gad) gad.size _ (sb_length gad) (fun h => by cases h) (bytes_new w5 gad _ _) (fun b off e _ => by cases e; exact own_ne_new R5.own) (by omega) (by omega)).mono ?_
      rintro e w6 ⟨v6, rfl, R6⟩
      go_wp2
      go_ret
      rw [HB.out]
      have := R6.post
      simp only [List.append_assoc] at this
      exact this
theorem Row.change {base : Nat} {w0 w : World} {v0 v : Value} {bs : List Nat} (h : Row base w0 v0 v bs w) (number epoch after : Nat) (am : Option Addr) (ms : List Mbr) (cm : Nat) (gid : Nat) (gad : ByteArray) (gc gn : Bool) (group : Nat)
    (h1 : number < 18446744073709551616) (h2 : epoch < 18446744073709551616) (h3 : after < 18446744073709551616) (h4 : gid < 18446744073709551616) (h5 : gad.size ≤ 1048576) (hms : MbrsAt w am ms) (hfit : ∀ m ∈ ms, m.fit) (hml : ms.length ≤ 1048576)
    (hne : ∀ b off, am = some ⟨b, off, none⟩ → 0 < ms.length → some b ≠ v.ownBlock) (hl : bs.length ≤ 2097152) :
    Calls Try.prog 26 #[v, .agg (cgv number epoch after (.slice am ms.length cm) gid gad gc gn group).toArray] w fun e w' => ∃ v', e = .returned v' ∧ Row base w0 v0 v' (bs ++ encChg ⟨number, epoch, after, ms, gid, gad, gc, gn, group⟩) w' :=
  (append_change base v bs number epoch after am ms cm gid gad gc gn group w h.own h1 h2 h3 h4 h5 hms hfit hml hne hl h.size).mono fun _ _ p => h.next p

set_option maxRecDepth 100000 in
set_option maxHeartbeats 2000000 in
theorem append_changeIn (base : Nat) (v : Value) (bs : List Nat) (number epoch after : Nat) (am : Option Addr) (ms : List Mbr) (cm : Nat) (gid : Nat) (gad : ByteArray) (gc gn : Bool) (group : Nat) (w : World) (hown : w.ownsRow base 5 1 v bs.length (bv bs))
    (h1 : number < 18446744073709551616) (h2 : epoch < 18446744073709551616) (h3 : after < 18446744073709551616) (h4 : gid < 18446744073709551616) (h5 : gad.size ≤ 1048576) (h6 : group < 18446744073709551616) (hms : MbrsAt w am ms) (hfit : ∀ m ∈ ms, m.fit) (hml : ms.length ≤ 1048576)
    (hne : ∀ b off, am = some ⟨b, off, none⟩ → 0 < ms.length → some b ≠ v.ownBlock) (hl : bs.length ≤ 2097152) (hb : base ≤ w.heap.size) :
    Calls Try.prog 24 #[v, .agg (cgv number epoch after (.slice am ms.length cm) gid gad gc gn group).toArray] w (EPost base v (bs ++ encChgIn ⟨number, epoch, after, ms, gid, gad, gc, gn, group⟩) w) := by
  have hbx := own_ne_new hown
  have R0 : Row base (w.alloc (.cells (cgv number epoch after (.slice am ms.length cm) gid gad gc gn group).toArray 64)) v v bs (w.alloc (.cells (cgv number epoch after (.slice am ms.length cm) gid gad gc gn group).toArray 64)) := Row.start (hown.alloc _) (by simp; omega)
  have hm0 : MbrsAt (w.alloc (.cells (cgv number epoch after (.slice am ms.length cm) gid gad gc gn group).toArray 64)) am ms := fun i hi => by
    obtain ⟨b, off, rfl, hb, hc⟩ := hms i hi
    exact ⟨b, off, rfl, by simp; omega, fun j u hj => by rw [World.cell?_of_block (w := w) (Below.heap_alloc w _ b hb)]; exact hc j u hj⟩
  have K := R0.change number epoch after am ms cm gid gad gc gn group h1 h2 h3 h4 h5 hm0 hfit hml hne hl
  have c8 : ∀ {v' : Value} {bs' : List Nat} {w' : World}, Row base (w.alloc (.cells (cgv number epoch after (.slice am ms.length cm) gid gad gc gn group).toArray 64)) v v' bs' w' → w'.cell? ⟨w.heap.size, 8, none⟩ = some (.int .u64 (group : Int)) := fun R => by
    rw [R.cell 8 (by simp) hbx, cell_of_row _ _ _ _ _ _ (heap_alloc_new w _)]; rfl
  have hlc : (bs ++ encChg ⟨number, epoch, after, ms, gid, gad, gc, gn, group⟩).length ≤ 70368744177664 := by
    have e1 := uv_length number
    have e2 := uv_length epoch
    have e3 := uv_length after
    have e4 := uv_length ms.length
    have e5 := uv_length gid
    have e6 := uv_length (sb gad).length
    have e7 := encMbrs_len ms hfit
    simp only [encChg, encBytes, List.length_append, sb_length] at e6 ⊢
    omega
  unfold cgv
  unfold cgv at K c8
  clear R0 hm0
  go_enter Try.func24, Try.ntmps24
  go_wp2_with fail
  refine K.mono ?_
  rintro e w1 ⟨v1, rfl, R1⟩
  have d8 := c8 R1
  clear c8
  go_wp2_with fail
  refine (R1.uv group h6 hlc).mono ?_
  rintro e w2 ⟨v2, rfl, R2⟩
  go_wp2
  go_ret
  have := R2.post
  simp only [List.append_assoc] at this
  exact this
end Go.Proofs.Qxb6616158a
