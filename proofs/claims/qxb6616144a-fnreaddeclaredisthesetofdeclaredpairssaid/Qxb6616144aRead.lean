import Derived.Test.Qxb6616144aReg
import Derived.RangeFuncWrites
namespace Go.Proofs.Qxb6616144a
open Go.RowKit Go.Maps Go.Sort Go.Shelf
attribute [local go_sem] Oper.semAt_some

theorem run_makeMap_hint {P : Program} {t k e : TypeId} (hu : P.underlying t = some (.map k e)) (z : Int) (w : World) : (Instr.makeMap t (some (.int .i64 z))).run P w = .ok (.map (some w.heap.size)) (w.alloc (.map #[] 0)) := by
  simp [Instr.makeMap, run_underlying hu, asInt, asIntOf, Result.andThen]
def evPairs (es : List Ev) : List (ByteArray × ByteArray) := es.map fun e => (e.entity, e.event)

/-- What readDeclared leaves: the field's map holds the declared pairs, and no others. -/
def DecPost (n₀ X : Nat) (es : List Ev) (G1 G2 : List UInt8 → Option (List Rl)) (w : World) (e : Ending) (w' : World) : Prop :=
  e = .returned (.tuple #[]) ∧ Below n₀ w w' ∧ ∃ m nn acc, w'.cell? ⟨X, 1, none⟩ = some (.map (some m)) ∧ n₀ ≤ m ∧ w'.ownsMap Try.prog 51 (plainElem Try.prog 4) m nn (setP acc) ∧
    ∀ p, p ∈ acc ↔ p ∈ evPairs es ∨ ∃ k rl, (G1 k = some rl ∨ G2 k = some rl) ∧ p ∈ pairs rl

theorem cell_new_1 (W : World) (v : Value) (t : TypeId) : (W.alloc (.cells #[v] t)).cell? ⟨W.heap.size, 0, none⟩ = some v := by
  rw [cell_row _ _ _ _ (heap_alloc_new W _)]; rfl

theorem RlsAt.move {n₀ : Nat} {w A B : World} {a : Option Addr} {rs : List Rl} (h : RlsAt n₀ A a rs) (hA : Below n₀ w A) (hB : Below n₀ w B) : RlsAt n₀ B a rs := fun i hi => by
  obtain ⟨b, off, e, hb, hz, hc⟩ := h i hi
  exact ⟨b, off, e, hb, hz, fun j u hj => by rw [hB.cell (p := ⟨b, off + i * 4 + j, none⟩) hb, ← hA.cell (p := ⟨b, off + i * 4 + j, none⟩) hb]; exact hc j u hj⟩
theorem ownsMap_notCells {H : Type} {P : Program} {k : TypeId} {R : Value → Option (DataW H × List MemPlace)} {w : World} {b n : Nat} {D : DataW H} (h : w.ownsMap P k R b n D) : ∃ o : Obj, w.heap[b]? = some o ∧ o.isCells = false := by
  obtain ⟨es, clock, hb, _⟩ := h
  exact ⟨_, hb, rfl⟩
theorem take_snoc {α : Type} {l : List α} (d : α) {k : Nat} (h : k < l.length) : l.take (k + 1) = l.take k ++ [l.getD k d] := by
  rw [List.take_add_one, List.getElem?_eq_getElem h]
  simp [List.getD, List.getElem?_eq_getElem h]
theorem cell_n1 (W : World) (v : Value) (t : TypeId) (b : Nat) (hb : b = W.heap.size) : (W.alloc (.cells #[v] t)).cell? ⟨b, 0, none⟩ = some v := by
  subst hb; exact cell_new_1 W v t
theorem frozen_n1 (W : World) (v : Value) (t : TypeId) (b : Nat) (hb : b = W.heap.size) : (W.alloc (.cells #[v] t)).frozen? ⟨b, 0, none⟩ = false := by
  subst hb; exact cells_free (heap_alloc_new W _) 0
theorem cell_al {W : World} {a : Addr} {v : Value} (o : Obj) (h : W.cell? a = some v) : (W.alloc o).cell? a = some v := cell_kept h (World.grownBy_alloc W o none) (fun r e => by cases e)
theorem frozen_al {W : World} {a : Addr} {v : Value} (o : Obj) (h : W.cell? a = some v) (hf : W.frozen? a = false) : (W.alloc o).frozen? a = false := (frozen_kept h (World.grownBy_alloc W o none) (fun r e => by cases e)).trans hf
theorem cell_lt {w : World} {b j : Nat} {v : Value} (h : w.cell? ⟨b, j, none⟩ = some v) : b < w.heap.size := by
  rcases Nat.lt_or_ge b w.heap.size with h1 | h1
  · exact h1
  · simp [World.cell?, Array.getElem?_eq_none h1] at h

set_option maxRecDepth 100000 in
set_option maxHeartbeats 4000000 in
theorem readDeclared_in (n : Nat) (hn : 3 ≤ n) (X Q n₀ : Nat) (w : World) (ae : Option Addr) (ce : Nat) (es : List Ev) (m1 m2 : Option Nat) (G1 G2 : List UInt8 → Option (List Rl)) (v0 : Value)
    (hn0 : n₀ ≤ X) (hX : X < w.heap.size) (hQ : Q < n₀) (hx1 : w.cell? ⟨X, 1, none⟩ = some v0) (hxf : w.frozen? ⟨X, 1, none⟩ = false)
    (hc1 : w.cell? ⟨Q, 5, none⟩ = some (.map m1)) (hc2 : w.cell? ⟨Q, 6, none⟩ = some (.map m2)) (hc3 : w.cell? ⟨Q, 7, none⟩ = some (.slice ae es.length ce)) (hE : EvsAt n₀ w ae es) (hEl : es.length ≤ 1048576) (hM1 : RMap Sh4 n₀ w m1 G1) (hM2 : RMap Sh2 n₀ w m2 G2) :
    CallsIn Fence.wide n Try.prog 21 #[.pointer (some ⟨X, 0, none⟩), .pointer (some ⟨Q, 0, none⟩)] w (DecPost n₀ X es G1 G2 w) := by
  have h1 : 1 ≤ n := by omega
  have hmx : Try.prog.follows .mixedOrders = true := by kernel_rfl
  have hmk : ∀ (z : Int) (w : World), _ := fun z w => run_makeMap_hint (P := Try.prog) Try.underlying44 z w
  refine callsIn_of_wp_marks Try.func21 rfl trivial ?_ rfl
  simp only [Try.ntmps21, List.size_toArray, List.length_cons, List.length_nil, Nat.reduceAdd, Nat.reduceSub, Array.replicate_succ, Array.replicate_zero, List.push_toArray, List.append_toArray, List.nil_append, List.cons_append]
  have hQw : Q < w.heap.size := by omega
  gi_wp2_with (refine ⟨trivial, ?_⟩; gi_at_call 24; refine (ruleLists_in Fence.wide (n - 1) trivial rfl _ _).mono ?_; rintro e w' ⟨rfl, rfl⟩)
  -- BODY
  have hba : Below w.heap.size w (((w.alloc (.cells #[.pointer (some ⟨X, 0, none⟩)] 82)).alloc (.cells #[.int .i64 es.length] 3)).alloc (.cells #[.pointer (some ⟨Q, 0, none⟩)] 46)) := (((Below.refl _ w).alloc (Nat.le_refl _) _).alloc (by simp) _).alloc (by simp; omega) _
  have hsz : (((w.alloc (.cells #[.pointer (some ⟨X, 0, none⟩)] 82)).alloc (.cells #[.int .i64 es.length] 3)).alloc (.cells #[.pointer (some ⟨Q, 0, none⟩)] 46)).heap.size = w.heap.size + 3 := by simp
  have cx : (((w.alloc (.cells #[.pointer (some ⟨X, 0, none⟩)] 82)).alloc (.cells #[.int .i64 es.length] 3)).alloc (.cells #[.pointer (some ⟨Q, 0, none⟩)] 46)).cell? ⟨w.heap.size, 0, none⟩ = some (.pointer (some ⟨X, 0, none⟩)) := cell_al _ (cell_al _ (cell_new_1 _ _ _))
  have cs : (((w.alloc (.cells #[.pointer (some ⟨X, 0, none⟩)] 82)).alloc (.cells #[.int .i64 es.length] 3)).alloc (.cells #[.pointer (some ⟨Q, 0, none⟩)] 46)).cell? ⟨w.heap.size + 1, 0, none⟩ = some (.int .i64 es.length) := cell_al _ (cell_n1 _ _ _ _ (by simp))
  have fs : (((w.alloc (.cells #[.pointer (some ⟨X, 0, none⟩)] 82)).alloc (.cells #[.int .i64 es.length] 3)).alloc (.cells #[.pointer (some ⟨Q, 0, none⟩)] 46)).frozen? ⟨w.heap.size + 1, 0, none⟩ = false := frozen_al _ (cell_n1 _ _ _ _ (by simp)) (frozen_n1 _ _ _ _ (by simp))
  have cp : (((w.alloc (.cells #[.pointer (some ⟨X, 0, none⟩)] 82)).alloc (.cells #[.int .i64 es.length] 3)).alloc (.cells #[.pointer (some ⟨Q, 0, none⟩)] 46)).cell? ⟨w.heap.size + 1 + 1, 0, none⟩ = some (.pointer (some ⟨Q, 0, none⟩)) := cell_n1 _ _ _ _ (by simp)
  generalize (((w.alloc (.cells #[.pointer (some ⟨X, 0, none⟩)] 82)).alloc (.cells #[.int .i64 es.length] 3)).alloc (.cells #[.pointer (some ⟨Q, 0, none⟩)] 46)) = wa at *
  refine wpIn_rangeFunc_ownG (F := Fence.wide) (ps := #[18]) rfl h1 (gf := 27) (lb := #[.pointer (some ⟨w.heap.size + 1 + 1, 0, none⟩)]) rfl trivial (enters_of Try.func27 (by kernel_rfl) rfl)
    (lists_stops Fence.wide (n - 1) trivial rfl (by omega) (w.heap.size + 1 + 1) Q n₀ wa m1 m2 G1 G2 (by omega) (by omega) hQ cp ((hba.cell (p := ⟨Q, 5, none⟩) hQw).trans hc1) ((hba.cell (p := ⟨Q, 6, none⟩) hQw).trans hc2) (hM1.keep (hba.mono (by omega))) (hM2.keep (hba.mono (by omega)))) kpR_t (kpR_b (by omega) (by omega)) (Below.refl _ _) (fun _ => rfl)
    (fun _ W => (W.cell? ⟨w.heap.size, 0, none⟩ = some (.pointer (some ⟨X, 0, none⟩)) ∧ (∃ z, W.cell? ⟨w.heap.size + 1, 0, none⟩ = some (.int .i64 z)) ∧ W.frozen? ⟨w.heap.size + 1, 0, none⟩ = false) ∧ Below w.heap.size w W)
    (fun _ _ _ => False)
    (OwnFrom.and (fun s A B row hs hg hr => by
      obtain ⟨q1, ⟨z, q2⟩, q3⟩ := hs
      have hr' : ∀ r, row = some r → ∃ o : Obj, A.heap[r]? = some o ∧ o.isCells = false := fun r e => (hr r e).2
      exact ⟨cell_kept q1 hg hr', ⟨z, cell_kept q2 hg hr'⟩, (frozen_kept q2 hg hr').trans q3⟩) (ownFrom_below (Nat.le_refl _) (by omega)))
    (fun _ _ _ _ _ hs _ _ => hs)
    ⟨⟨cx, ⟨_, cs⟩, fs⟩, hba⟩
    (fun x => { tmps := #[.pointer (some ⟨X, 0, none⟩), .pointer (some ⟨Q, 0, none⟩), .pointer (some ⟨w.heap.size, 0, none⟩), undef, .pointer (some ⟨w.heap.size + 1, 0, none⟩), .slice x.ad x.rl.length x.cap, undef, undef, undef, undef, undef, .pointer (some ⟨Q, 0, none⟩), .pointer (some ⟨Q, 0, none⟩), .pointer (some ⟨Q, 7, none⟩), .slice ae es.length ce, .int .i64 es.length, .pointer (some ⟨Q, 0, none⟩), .func (.func 27) #[] #[.pointer (some ⟨w.heap.size + 1 + 1, 0, none⟩)], .slice x.ad x.rl.length x.cap, undef, undef, undef, undef, undef, undef, undef, undef, undef, undef, undef, undef, undef, undef, undef, undef, undef, undef, undef, undef, undef, undef, undef, undef, undef, undef, undef, undef, undef, undef, undef, undef, undef, undef, undef, undef, undef, undef, undef, undef, undef, undef, undef], defers := [] }) ?assign ?body ?done ?stop
  case assign =>
    intro l x W K hK
    dsimp only [RSl.enc]
    gi_wp2
    exact hK
  case stop =>
    rintro D c pre W _ _ h _
    exact h.elim
  case body =>
    rintro l pre x W ⟨⟨q1, ⟨z, q2⟩, q3⟩, hB⟩ _
    gi_wp2
    have hlt : w.heap.size + 1 < W.heap.size := cell_lt q2
    refine ⟨(KeepsOthers.setCell _ _ _).from _, ⟨(Below.refl n₀ W).setCell (p := ⟨w.heap.size + 1, 0, none⟩) (by show n₀ ≤ w.heap.size + 1; omega) _, fun k o hk ho hw => ?_, Below.heap_setCell W ⟨w.heap.size + 1, 0, none⟩ _ _ (by show w.heap.size + 1 + 1 ≠ w.heap.size + 1; omega)⟩, ⟨?_, ⟨_, World.cell?_setCell_same' _ _ _ (by rw [q2]; rfl)⟩, by rw [World.frozen?_setCell]; exact q3⟩, hB.setCell (p := ⟨w.heap.size + 1, 0, none⟩) (by show w.heap.size ≤ w.heap.size + 1; omega) _⟩
    · exact (Below.heap_setCell W ⟨w.heap.size + 1, 0, none⟩ _ k (by show k ≠ w.heap.size + 1; omega)).trans ho
    · exact (World.cell?_of_block (Below.heap_setCell W ⟨w.heap.size + 1, 0, none⟩ _ w.heap.size (by show w.heap.size ≠ w.heap.size + 1; omega))).trans q1
  case done =>
    rintro D1 xs W1 hD1 _ ⟨⟨q1, ⟨z, q2⟩, q3⟩, hB⟩ hK1
    have hx1' := (hB.cell (p := ⟨X, 1, none⟩) hX).trans hx1
    have hxf' := (hB.frozen (p := ⟨X, 1, none⟩) hX).trans hxf
    have hc3' := (hB.cell (p := ⟨Q, 7, none⟩) hQw).trans hc3
    have hx2 := cell_al (.map #[] 0) hx1'
    have hf2 := frozen_al (.map #[] 0) hx1' hxf'
    have q1a := cell_al (.map #[] 0) q1
    clear cx cs fs cp
    gi_wp2
    gi_region_o
    have hXW := Nat.lt_of_lt_of_le hX hB.size
    have hB2 : Below n₀ w ((W1.alloc (.map #[] 0)).setCell ⟨X, 1, none⟩ (.map (some W1.heap.size))).drew := (((hB.mono (by omega)).alloc (by omega) _).setCell (p := ⟨X, 1, none⟩) hn0 _).drew
    have hw0 := hB.size
    have hs2 : W1.heap.size < ((W1.alloc (.map #[] 0)).setCell ⟨X, 1, none⟩ (.map (some W1.heap.size))).drew.heap.size := by show _ < ((W1.alloc (.map #[] 0)).setCell ⟨X, 1, none⟩ (.map (some W1.heap.size))).heap.size; simp [World.setCell]
    have hx3 : ((W1.alloc (.map #[] 0)).setCell ⟨X, 1, none⟩ (.map (some W1.heap.size))).drew.cell? ⟨X, 1, none⟩ = some (.map (some W1.heap.size)) := World.cell?_setCell_same' _ _ _ (by rw [hx2]; rfl)
    have q4 : ((W1.alloc (.map #[] 0)).setCell ⟨X, 1, none⟩ (.map (some W1.heap.size))).drew.cell? ⟨w.heap.size, 0, none⟩ = some (.pointer (some ⟨X, 0, none⟩)) := (World.cell?_of_block (Below.heap_setCell (W1.alloc (.map #[] 0)) ⟨X, 1, none⟩ _ w.heap.size (by show w.heap.size ≠ X; omega))).trans q1a
    have hown0 : ((W1.alloc (.map #[] 0)).setCell ⟨X, 1, none⟩ (.map (some W1.heap.size))).drew.ownsMap Try.prog 51 (plainElem Try.prog 4) W1.heap.size 0 (setP []) := ((World.ownsMap_made W1 Try.prog 51 (plainElem (H := Unit) Try.prog 4)).setCell (a := ⟨X, 1, none⟩) (by show W1.heap.size ≠ X; omega) _).drew
    have hD1l := lt_of_block hK1
    have hK2 : ((W1.alloc (.map #[] 0)).setCell ⟨X, 1, none⟩ (.map (some W1.heap.size))).drew.heap[D1]? = some (.deferred (some [])) := ((Below.heap_setCell (W1.alloc (.map #[] 0)) ⟨X, 1, none⟩ _ D1 (by show D1 ≠ X; omega)).trans (Below.heap_alloc _ _ _ hD1l)).trans hK1
    obtain ⟨M, hM⟩ : ∃ M, M = W1.heap.size := ⟨_, rfl⟩
    rw [← hM] at hB2 hs2 hx3 q4 hown0 hK2 hD1l ⊢
    generalize ((W1.alloc (.map #[] 0)).setCell ⟨X, 1, none⟩ (.map (some M))).drew = W2 at *
    have hMn : w.heap.size < M := by rw [hM]; omega
    clear hx2 hf2 q1a q1 q2 q3 hx1' hxf' hc3' hB hK1 hba hM hXW hw0
    have hc4 := (hB2.cell (p := ⟨Q, 7, none⟩) hQ).trans hc3
    gi_wp2
    gi_loopw [33, 7] (fun i _ wr => ∃ k : Nat, k ≤ es.length ∧ i = .int .i64 k ∧ wr.cell? ⟨X, 1, none⟩ = some (.map (some M)) ∧ wr.cell? ⟨w.heap.size, 0, none⟩ = some (.pointer (some ⟨X, 0, none⟩)) ∧ wr.ownsMap Try.prog 51 (plainElem Try.prog 4) M k (setP (evPairs (es.take k))) ∧ wr.heap[D1]? = some (.deferred (some [])) ∧ Below n₀ w wr ∧ W2.heap.size ≤ wr.heap.size)
      (fun i _ _ => es.length - (intOf i).toNat)
    case atStart => exact ⟨0, Nat.zero_le _, rfl, hx3, q4, hown0, hK2, hB2, Nat.le_refl _⟩
    case round =>
      obtain ⟨k, hk, rfl, hx4, hq4, hown, hK3, hB3, hs3⟩ := hrel
      by_cases hlt : k < es.length
      · obtain ⟨b, off, rfl, hb, ⟨g0, g1⟩, hcs⟩ := (hE.keep hB3) k hlt
        have htk := take_snoc ev0 hlt
        generalize hEE : es.getD k ev0 = R at *
        obtain ⟨en, evn⟩ := R
        have q0 := hcs 0 _ rfl
        have q1 := hcs 1 _ rfl
        simp only [Nat.add_zero] at q0
        simp only at q0 q1 g0 g1
        obtain ⟨w3, hrun, hown3, hgr3⟩ := ((hown.alloc (.cells #[.string en, .string evn] 51)).drew).update keyed51 Try.underlying44 (by unfold maxLen; omega) (keyOf_pair g0 g1) (plainElem_bool Try.underlying4 true)
        have hx5 := cell_al (.cells #[.string en, .string evn] 51) hx4
        have hq5 := cell_al (.cells #[.string en, .string evn] 51) hq4
        clear hcs
        gi_wp2
        gi_region_o
        have hMc := ownsMap_notCells ((hown.alloc (.cells #[.string en, .string evn] 51)).drew)
        have hMl := hown.lt
        have hD3 := lt_of_block hK3
        gi_wp2
        go_roundw
        case rel =>
          exact ⟨k + 1, by omega, by go_num, cell_kept (W := (wr.alloc (.cells #[.string en, .string evn] 51)).drew) hx5 hgr3 (fun r e => by cases e; exact hMc), cell_kept (W := (wr.alloc (.cells #[.string en, .string evn] 51)).drew) hq5 hgr3 (fun r e => by cases e; exact hMc), by rw [htk]; unfold evPairs at hown3 ⊢; rw [List.map_append, List.map_cons, List.map_nil, setP_snoc]; exact hown3,
            (hgr3.block D1 (by show D1 < (wr.alloc _).heap.size; simp; omega) (by intro e; cases e; omega)).trans ((Below.heap_alloc _ _ _ hD3).trans hK3), ((hB3.alloc (by omega) _).drew).grown hgr3 (by show n₀ ≤ (wr.alloc _).heap.size; simp; omega) (fun q e => by cases e; omega), by have := hgr3.size; have e : (wr.alloc (.cells #[.string en, .string evn] 51)).drew.heap.size = wr.heap.size + 1 := by { show (wr.alloc _).heap.size = _; simp }; omega⟩
        case measure => simp [intOf]; omega
      · obtain rfl : k = es.length := by omega
        obtain ⟨wo, hwo⟩ : ∃ wo, wo = wr := ⟨_, rfl⟩
        subst hwo
        rw [List.take_length] at hown
        have hs3' : n₀ ≤ wo.heap.size := by omega
        clear hlt hs3 hx3 q4 hown0 hK2 hB2 hc4 hs2
        gi_wp2_with (refine ⟨trivial, ?_⟩; gi_at_call 24; refine (ruleLists_in Fence.wide (n - 1) trivial rfl _ _).mono ?_; rintro e w' ⟨rfl, rfl⟩)
        have hMl := hown.lt
        have hD3 := lt_of_block hK3
        have hwl := cell_lt hq4
        have cp2 : (wo.alloc (.cells #[.pointer (some ⟨Q, 0, none⟩)] 46)).cell? ⟨wo.heap.size, 0, none⟩ = some (.pointer (some ⟨Q, 0, none⟩)) := cell_new_1 _ _ _
        have hB4 : Below n₀ w (wo.alloc (.cells #[.pointer (some ⟨Q, 0, none⟩)] 46)) := hB3.alloc hs3' _
        have hx5 := cell_al (.cells #[.pointer (some ⟨Q, 0, none⟩)] 46) hx4
        have hq5 := cell_al (.cells #[.pointer (some ⟨Q, 0, none⟩)] 46) hq4
        have hown5 := hown.alloc (.cells #[.pointer (some ⟨Q, 0, none⟩)] 46)
        have hK5 : (wo.alloc (.cells #[.pointer (some ⟨Q, 0, none⟩)] 46)).heap[D1]? = some (.deferred (some [])) := (Below.heap_alloc _ _ _ hD3).trans hK3
        have hs5 : (wo.alloc (.cells #[.pointer (some ⟨Q, 0, none⟩)] 46)).heap.size = wo.heap.size + 1 := by simp
        generalize wo.alloc (.cells #[.pointer (some ⟨Q, 0, none⟩)] 46) = wb at *
        refine wpIn_rangeFunc_ownG (F := Fence.wide) (ps := #[45]) rfl h1 (gf := 27) (lb := #[.pointer (some ⟨wo.heap.size, 0, none⟩)]) rfl trivial (enters_of Try.func27 (by kernel_rfl) rfl)
          (lists_stops Fence.wide (n - 1) trivial rfl (by omega) wo.heap.size Q n₀ wb m1 m2 G1 G2 (by omega) (by omega) hQ cp2 ((hB4.cell (p := ⟨Q, 5, none⟩) hQ).trans hc1) ((hB4.cell (p := ⟨Q, 6, none⟩) hQ).trans hc2) (hM1.keep hB4) (hM2.keep hB4)) kpR_t (kpR_b (by omega) (by omega)) (Below.refl _ _) (fun _ => rfl)
          (fun pre W => (W.cell? ⟨X, 1, none⟩ = some (.map (some M)) ∧ W.cell? ⟨w.heap.size, 0, none⟩ = some (.pointer (some ⟨X, 0, none⟩)) ∧ W.ownsMap Try.prog 51 (plainElem Try.prog 4) M (1048576 * (pre.length + 1)) (setP (evPairs es ++ pre.flatMap (fun x => pairs x.rl))) ∧ W.heap[D1]? = some (.deferred (some [])) ∧ wb.heap.size ≤ W.heap.size) ∧ Below n₀ w W)
          (fun _ _ _ => False)
          (OwnFrom.and (fun s A B row hs hg hr => by
            obtain ⟨i1, i2, i3, i4, i5⟩ := hs
            have hr' : ∀ r, row = some r → ∃ o : Obj, A.heap[r]? = some o ∧ o.isCells = false := fun r e => (hr r e).2
            exact ⟨cell_kept i1 hg hr', cell_kept i2 hg hr', i3.kept hg (fun e => by have := (hr _ e.symm).1; omega), (hg.block D1 (lt_of_block i4) (fun e => by have := (hr _ e.symm).1; omega)).trans i4, Nat.le_trans i5 hg.size⟩) (ownFrom_below (by omega) (by omega)))
          (fun _ _ _ _ _ hs _ _ => hs)
          ⟨⟨hx5, hq5, by rw [List.flatMap_nil, List.append_nil]; exact hown5.mono (by simp only [List.length_nil]; omega), hK5, Nat.le_refl _⟩, hB4⟩
          (fun x => { tmps := #[.pointer (some ⟨X, 0, none⟩), .pointer (some ⟨Q, 0, none⟩), .pointer (some ⟨w.heap.size, 0, none⟩), undef, .pointer (some ⟨w.heap.size + 1, 0, none⟩), undef, undef, u7, .slice x.ad x.rl.length x.cap, undef, undef, .pointer (some ⟨Q, 0, none⟩), .pointer (some ⟨Q, 0, none⟩), .pointer (some ⟨Q, 7, none⟩), .slice ae es.length ce, .int .i64 es.length, .pointer (some ⟨Q, 0, none⟩), .func (.func 27) #[] #[.pointer (some ⟨w.heap.size + 1 + 1, 0, none⟩)], undef, undef, undef, undef, undef, .pointer (some ⟨X, 0, none⟩), .int .i64 z, .map (some M), .pointer (some ⟨X, 0, none⟩), .pointer (some ⟨X, 1, none⟩), .pointer (some ⟨Q, 0, none⟩), .pointer (some ⟨Q, 0, none⟩), .pointer (some ⟨Q, 7, none⟩), .slice ae es.length ce, .int .i64 es.length, .int .i64 es.length, .bool false, u35, u36, u37, u38, u39, u40, u41, u42, .pointer (some ⟨Q, 0, none⟩), .func (.func 27) #[] #[.pointer (some ⟨wo.heap.size, 0, none⟩)], .slice x.ad x.rl.length x.cap, undef, undef, undef, undef, undef, undef, undef, undef, undef, undef, undef, undef, undef, undef, undef, undef], defers := [] }) ?assign2 ?body2 ?done2 ?stop2
        case assign2 =>
          intro l x W K hK
          dsimp only [RSl.enc]
          gi_wp2
          exact hK
        case stop2 =>
          rintro D c pre W _ _ h _
          exact h.elim
        case body2 =>
          rintro l pre x W ⟨⟨i1, i2, i3, i4, i5⟩, iB⟩ hpl
          have hRl := x.at'.move hB4 iB
          obtain ⟨xa, xl, xc, xat, xle⟩ := x
          simp only at hRl ⊢
          have hDW := lt_of_block i4
          have hWn : n₀ ≤ W.heap.size := by have := i3.lt; omega
          have hpre : pre.length < 2097152 := hpl
          generalize hacc : evPairs es ++ pre.flatMap (fun x => pairs x.rl) = acc at i3
          generalize hN : 1048576 * (pre.length + 1) = N at i3
          have hN2 : N ≤ 2199023255552 := by omega
          gi_wp2
          gi_loopw [48, 10] (fun i _ wr => ∃ j : Nat, j ≤ xl.length ∧ i = .int .i64 j ∧ wr.cell? ⟨X, 1, none⟩ = some (.map (some M)) ∧ wr.cell? ⟨w.heap.size, 0, none⟩ = some (.pointer (some ⟨X, 0, none⟩)) ∧ wr.ownsMap Try.prog 51 (plainElem Try.prog 4) M (N + j) (setP (acc ++ pairs (xl.take j))) ∧ wr.heap[D1]? = some (.deferred (some [])) ∧ Below n₀ w wr ∧ Below n₀ W wr ∧ (∀ k o, wb.heap.size ≤ k → W.heap[k]? = some o → o.isCells = false → wr.heap[k]? = some o) ∧ wr.heap[wo.heap.size]? = W.heap[wo.heap.size]?)
            (fun i _ _ => xl.length - (intOf i).toNat)
          case atStart => exact ⟨0, Nat.zero_le _, rfl, i1, i2, by simpa [pairs] using i3, i4, iB, Below.refl _ _, fun _ _ _ h _ => h, rfl⟩
          case round =>
            obtain ⟨j, hj, rfl, j1, j2, j3, j4, jB, jW, jK, jp⟩ := hrel
            by_cases hlj : j < xl.length
            · obtain ⟨b, off, rfl, hb, ⟨g0, g1, g2⟩, hcs⟩ := (hRl.keep jW) j hlj
              have htk := take_snoc rl0 hlj
              generalize hEE : xl.getD j rl0 = R at *
              obtain ⟨en, evn, rq, ap⟩ := R
              have q0 := hcs 0 _ rfl
              have q1 := hcs 1 _ rfl
              have q2 := hcs 2 _ rfl
              have q3 := hcs 3 _ rfl
              simp only [Nat.add_zero] at q0
              simp only at q0 q1 q2 q3 g0 g1 g2
              obtain ⟨w3, hrun, hown3, hgr3⟩ := ((j3.alloc (.cells #[.string en, .string evn, .string rq, .int .i64 ap] 112)).drew).update keyed51 Try.underlying44 (by unfold maxLen; omega) (keyOf_pair g0 g1) (plainElem_bool Try.underlying4 true)
              have hx6 := cell_al (.cells #[.string en, .string evn, .string rq, .int .i64 ap] 112) j1
              have hq6 := cell_al (.cells #[.string en, .string evn, .string rq, .int .i64 ap] 112) j2
              have hc0 : (wr.alloc (.cells #[.string en, .string evn, .string rq, .int .i64 ap] 112)).drew.cell? ⟨wr.heap.size, 0, none⟩ = some (.string en) := by show (wr.alloc _).cell? _ = _; rw [cell_row _ _ _ _ (heap_alloc_new wr _)]; rfl
              have hc1' : (wr.alloc (.cells #[.string en, .string evn, .string rq, .int .i64 ap] 112)).drew.cell? ⟨wr.heap.size, 1, none⟩ = some (.string evn) := by show (wr.alloc _).cell? _ = _; rw [cell_row _ _ _ _ (heap_alloc_new wr _)]; rfl
              clear hcs
              gi_wp2
              refine reg16 l _ _ _ w.heap.size X wr.heap.size M en evn _ w3 _ (by kernel_rfl) rfl rfl rfl hq6 hx6 hc0 hc1' hrun ?_
              unfold end16
              gi_wp2
              have hMc := ownsMap_notCells ((j3.alloc (.cells #[.string en, .string evn, .string rq, .int .i64 ap] 112)).drew)
              have hMl2 := j3.lt
              have hD4 := lt_of_block j4
              have hse : (wr.alloc (.cells #[.string en, .string evn, .string rq, .int .i64 ap] 112)).drew.heap.size = wr.heap.size + 1 := by show (wr.alloc _).heap.size = _; simp
              have hWs := jW.size
              refine ⟨⟨j + 1, by omega, by go_num, cell_kept (W := (wr.alloc (.cells #[.string en, .string evn, .string rq, .int .i64 ap] 112)).drew) hx6 hgr3 (fun r e => by cases e; exact hMc), cell_kept (W := (wr.alloc (.cells #[.string en, .string evn, .string rq, .int .i64 ap] 112)).drew) hq6 hgr3 (fun r e => by cases e; exact hMc), ?_,
                (hgr3.block D1 (by omega) (by intro e; cases e; omega)).trans ((Below.heap_alloc _ _ _ hD4).trans j4), ((jB.alloc (by omega) _).drew).grown hgr3 (by omega) (fun q e => by cases e; omega), ((jW.alloc (by omega) _).drew).grown hgr3 (by omega) (fun q e => by cases e; omega), fun k o hk ho hc => ?_, ?_⟩, by simp [intOf]; omega⟩
              · rw [htk]
                unfold pairs at hown3 ⊢
                rw [List.map_append, List.map_cons, List.map_nil, ← List.append_assoc, setP_snoc]
                exact hown3
              · have ho2 := jK k o hk ho hc
                have hkl := lt_of_block ho2
                exact (hgr3.block k (by omega) (by intro e; cases e; omega)).trans ((Below.heap_alloc _ _ _ hkl).trans ho2)
              · exact (hgr3.block wo.heap.size (by omega) (by intro e; cases e; omega)).trans ((Below.heap_alloc _ _ _ (by omega)).trans jp)
            · obtain rfl : j = xl.length := by omega
              have hWs := jW.size
              gi_wp2
              refine ⟨⟨hWs, fun k o hB hk ho => jK k o hB hk ho⟩, ⟨jW, fun k o hk ho hw => jK k o hk ho (Obj.not_cells_of_walk hw), jp⟩, ⟨j1, j2, ?_, j4, by omega⟩, jB⟩
              rw [List.take_length] at j3
              have e : evPairs es ++ (pre ++ [(⟨xa, xl, xc, xat, xle⟩ : RSl n₀ wb)]).flatMap (fun x => pairs x.rl) = acc ++ pairs xl := by rw [← hacc]; simp
              rw [e]
              refine j3.mono ?_
              rw [List.length_append, List.length_cons, List.length_nil]
              omega
        case done2 =>
          rintro D2 xs W3 hD2 hS ⟨⟨i1, i2, i3, i4, i5⟩, iB⟩ hK2
          gi_wp2
          have hD12 : D1 ≠ D2 := by omega
          have hK1' : (W3.putObj D2 (.deferred none)).heap[D1]? = some (.deferred (some [])) := (World.putObj_heap_other hD12).trans i4
          have hg2 := grownBy_putObj' W3 D2 (.deferred none)
          have hg1 := grownBy_putObj' (W3.putObj D2 (.deferred none)) D1 (.deferred none)
          have b1 : Below n₀ w (W3.putObj D2 (.deferred none)) := iB.grown hg2 (by omega) (fun k e => by cases e; omega)
          have hz := hg2.size
          have o1 := i3.kept hg2 (fun e => by cases e; omega)
          have c1' := cell_kept i1 hg2 (fun r e => by cases e; exact ⟨_, hK2, rfl⟩)
          refine ⟨by simp, .inl ⟨_, _, rfl, run_takeDeferred hK2, ?_⟩⟩
          refine ⟨by simp, .inl ⟨_, _, rfl, run_takeDeferred hK1', ?_⟩⟩
          refine ⟨_, results_none rfl _ _ _, rfl, b1.grown hg1 (by omega) (fun k e => by cases e; omega), M, _, _, cell_kept c1' hg1 (fun r e => by cases e; exact ⟨_, hK1', rfl⟩), by omega, o1.kept hg1 (fun e => by cases e; omega), fun p => ?_⟩
          rw [List.mem_append, List.mem_flatMap]
          exact or_congr_right (hS p)
end Go.Proofs.Qxb6616144a
