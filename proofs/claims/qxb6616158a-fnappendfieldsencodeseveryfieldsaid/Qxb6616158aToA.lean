import Derived.Test.Qxb6616158aTo
import Derived.Deep.CutRange
namespace Go.Proofs.Qxb6616158a
open Go.RowKit

/-- The pointee of the result, its three references in place. -/
def pv (ticket epoch start prev prevEpoch : Nat) (ent ends : Value) (commit held : Nat) (chg : Value) (changes changed read : Nat) : Array Value := #[.int .u64 (ticket : Int), .int .u64 (epoch : Int), .int .u64 (start : Int), .int .u64 (prev : Int), .int .u64 (prevEpoch : Int), ent, ends, .int .u64 (commit : Int), .int .u64 (held : Int), chg, .int .u64 (changes : Int), .int .u64 (changed : Int), .int .u64 (read : Int)]
/-- A store into block g turns nothing from g + 1 on, nor below g. -/
theorem same_set (w : World) (g j : Nat) (u : Value) (hi : Nat) : Same (g + 1) hi w (w.setCell ⟨g, j, none⟩ u) := fun b h1 _ => Below.heap_setCell w ⟨g, j, none⟩ u b (by show b ≠ g; omega)
theorem size_set (w : World) (a : Addr) (u : Value) : (w.setCell a u).heap.size = w.heap.size := by simp [World.setCell]
theorem cell_set_other (w : World) (g j b k : Nat) (u : Value) (h : b ≠ g) : (w.setCell ⟨g, j, none⟩ u).cell? ⟨b, k, none⟩ = w.cell? ⟨b, k, none⟩ := World.cell?_of_block (w := w) (Below.heap_setCell w ⟨g, j, none⟩ u b h)

theorem EntsIn.set {w : World} {g : Nat} {a : Option Addr} {es : List Ent} (h : EntsIn (g + 1) w.heap.size w a es) (j : Nat) (u : Value) : EntsIn (g + 1) (w.setCell ⟨g, j, none⟩ u).heap.size (w.setCell ⟨g, j, none⟩ u) a es :=
  h.same (same_set w g j u _) (Nat.le_of_eq (size_set w ⟨g, j, none⟩ u).symm)
theorem EndsIn.set {w : World} {g : Nat} {a : Option Addr} {es : List Nat} (h : EndsIn (g + 1) w.heap.size w a es) (j : Nat) (u : Value) : EndsIn (g + 1) (w.setCell ⟨g, j, none⟩ u).heap.size (w.setCell ⟨g, j, none⟩ u) a es :=
  h.same (same_set w g j u _) (Nat.le_of_eq (size_set w ⟨g, j, none⟩ u).symm)
theorem EntsIn.grow {lo : Nat} {w w' : World} {a : Option Addr} {es : List Ent} (h : EntsIn lo w.heap.size w a es) (hb : Below w.heap.size w w') : EntsIn lo w'.heap.size w' a es := h.same (Same.of_below hb) hb.size
theorem EndsIn.grow {lo : Nat} {w w' : World} {a : Option Addr} {es : List Nat} (h : EndsIn lo w.heap.size w a es) (hb : Below w.heap.size w w') : EndsIn lo w'.heap.size w' a es := h.same (Same.of_below hb) hb.size
theorem pv_cells {w : World} {P ticket epoch start prev prevEpoch commit held changes changed read : Nat} {ent ends chg : Value} {es : List Ent} {ns : List Nat} {oc : Option Chg} (h : w.heap[P]? = some (.cells (pv ticket epoch start prev prevEpoch ent ends commit held chg changes changed read) 52 (0, 0))) :
    ∀ j u, (apdv ⟨ticket, epoch, start, prev, prevEpoch, es, ns, commit, held, oc, changes, changed, read⟩ ent ends chg)[j]? = some u → w.cell? ⟨P, j, none⟩ = some u := fun j u hj => by
  rw [cell_of_row _ _ _ _ _ _ h]
  simpa [pv, apdv] using hj
theorem PayIn.lower {lo lo' hi : Nat} {w : World} {a : Option Addr} {c : Nat} {ps : List Nat} (h : PayIn lo hi w a c ps) (k : lo' ≤ lo) : PayIn lo' hi w a c ps :=
  ⟨h.1, fun i hi => by obtain ⟨b, off, e, h1, h2, hc⟩ := h.2 i hi; exact ⟨b, off, e, by omega, h2, hc⟩⟩
theorem EndsIn.lower {lo lo' hi : Nat} {w : World} {a : Option Addr} {es : List Nat} (h : EndsIn lo hi w a es) (k : lo' ≤ lo) : EndsIn lo' hi w a es := fun i hi => by
  obtain ⟨b, off, e, h1, h2, hc⟩ := h i hi
  exact ⟨b, off, e, by omega, h2, hc⟩
/-- zzCloneBytes, as the builder sees it. -/
theorem clone_pay (a : Option Addr) (ps : List Nat) (c : Nat) (w : World) (ha : a = none → ps = [] ∧ c = 0) (hps : BytesAt w a ps) (hl : ps.length ≤ 1048576) :
    Calls Try.prog 10 #[.slice a ps.length c] w fun e w' => ∃ a' c', e = .returned (.slice a' ps.length c') ∧ PayIn w.heap.size w'.heap.size w' a' c' ps ∧ Below w.heap.size w w' :=
  (clone_bytes a ps c w ha hps hl).mono fun e w' ⟨a', c', he, h1, h2, h3⟩ => by
    rw [bv_length] at he h2
    exact ⟨a', c', he, row_pay h1 h2, h3⟩
theorem clone_ends (a : Option Addr) (ps : List Nat) (c : Nat) (w : World) (ha : a = none → ps = [] ∧ c = 0) (hps : NumsAt w a ps) (hl : ps.length ≤ 1048576) :
    Calls Try.prog 16 #[.slice a ps.length c] w fun e w' => ∃ a' c', e = .returned (.slice a' ps.length c') ∧ EndsIn w.heap.size w'.heap.size w' a' ps ∧ Below w.heap.size w w' :=
  (clone_nums a ps c w ha hps hl).mono fun e w' ⟨a', c', he, h1, h2, h3⟩ => by
    rw [nv_length] at he h2
    exact ⟨a', c', he, row_ends h2, h3⟩

/-- The last steps: the change in a block of its own, its address stored. -/
theorem to_finish {w wz : World} {P ticket epoch start prev prevEpoch commit held changes changed read : Nat} {ae a3 am : Option Addr} {cae c3 cm : Nat} {es : List Ent} {ns : List Nat} {c : Chg} (hP : w.heap.size ≤ P)
    (zp : wz.heap[P]? = some (.cells (pv ticket epoch start prev prevEpoch (.slice ae es.length cae) (.slice a3 ns.length c3) commit held (.pointer none) changes changed read) 52 (0, 0)))
    (hz0 : Below w.heap.size w wz) (hEz : EntsIn (P + 1) wz.heap.size wz ae es) (hNz : EndsIn (P + 1) wz.heap.size wz a3 ns) (hm : MbrsIn wz.heap.size wz am c.members) (hml : ∀ b off, am = some ⟨b, off, none⟩ → 0 < c.members.length → P < b) :
    ApdAt ((wz.setCell ⟨P, 9, none⟩ (.pointer (some ⟨wz.heap.size, 0, none⟩))).alloc (.cells (c.cells (.slice am c.members.length cm)).toArray 64)).drew.heap.size ((wz.setCell ⟨P, 9, none⟩ (.pointer (some ⟨wz.heap.size, 0, none⟩))).alloc (.cells (c.cells (.slice am c.members.length cm)).toArray 64)).drew P
      ⟨ticket, epoch, start, prev, prevEpoch, es, ns, commit, held, some c, changes, changed, read⟩ ∧
    Below w.heap.size w ((wz.setCell ⟨P, 9, none⟩ (.pointer (some ⟨wz.heap.size, 0, none⟩))).alloc (.cells (c.cells (.slice am c.members.length cm)).toArray 64)).drew := by
  have hPl := lt_of_block zp
  have hs := size_set wz ⟨P, 9, none⟩ (.pointer (some ⟨wz.heap.size, 0, none⟩))
  have z1 : (wz.setCell ⟨P, 9, none⟩ (.pointer (some ⟨wz.heap.size, 0, none⟩))).heap[P]? = some (.cells (pv ticket epoch start prev prevEpoch (.slice ae es.length cae) (.slice a3 ns.length c3) commit held (.pointer (some ⟨wz.heap.size, 0, none⟩)) changes changed read) 52 (0, 0)) := cells_setCell zp 9 _
  have q1 := hEz.set 9 (.pointer (some ⟨wz.heap.size, 0, none⟩))
  have q2 := hNz.set 9 (.pointer (some ⟨wz.heap.size, 0, none⟩))
  have q3 : MbrsIn (wz.setCell ⟨P, 9, none⟩ (.pointer (some ⟨wz.heap.size, 0, none⟩))).heap.size (wz.setCell ⟨P, 9, none⟩ (.pointer (some ⟨wz.heap.size, 0, none⟩))) am c.members := fun i hi => by
    obtain ⟨b, off, e, hb, hc⟩ := hm i hi
    refine ⟨b, off, e, by rw [hs]; exact hb, fun j u hj => ?_⟩
    rw [cell_set_other _ _ _ _ _ _ (by have := hml b off e (by omega); omega)]
    exact hc j u hj
  have hb1 : Below w.heap.size w (wz.setCell ⟨P, 9, none⟩ (.pointer (some ⟨wz.heap.size, 0, none⟩))) := hz0.setCell hP _
  generalize wz.setCell ⟨P, 9, none⟩ (.pointer (some ⟨wz.heap.size, 0, none⟩)) = wv at *
  have hsz : wv.heap.size = wz.heap.size := hs
  have hg : Below wv.heap.size wv ((wv.alloc (.cells (c.cells (.slice am c.members.length cm)).toArray 64)).drew) := ((Below.refl _ _).alloc (Nat.le_refl _) _).drew
  have hgs : (wv.alloc (.cells (c.cells (.slice am c.members.length cm)).toArray 64)).drew.heap.size = wv.heap.size + 1 := by show (wv.heap.push _).size = _; simp
  refine ⟨⟨ae, cae, a3, c3, some ⟨wz.heap.size, 0, none⟩, by rw [hgs]; omega, pv_cells ((hg.block P (by omega)).trans z1), (q1.grow hg).at, (q2.grow hg).at, wz.heap.size, am, cm, rfl, by rw [hgs]; omega, fun j u hj => ?_, fun i hi => ?_⟩, hb1.trans (hg.mono hb1.size)⟩
  · rw [← hsz]
    show (wv.alloc (.cells (c.cells (.slice am c.members.length cm)).toArray 64)).cell? ⟨wv.heap.size, j, none⟩ = some u
    rw [cell_of_row _ _ _ _ _ _ (heap_alloc_new wv _)]
    simpa using hj
  · obtain ⟨b, off, e, hb, hc⟩ := q3 i hi
    exact ⟨b, off, e, by rw [hgs]; omega, fun j u hj => by rw [hg.cell (p := ⟨b, off + i * 4 + j, none⟩) hb]; exact hc j u hj⟩

set_option maxRecDepth 100000 in
set_option maxHeartbeats 4000000 in
theorem to_append (A : Apd) (ie : Option Addr) (ce : Nat) (an : Option Addr) (cn : Nat) (ip : Option Addr) (w : World) (hf : A.fit) (hie : ie = none → A.entries = [] ∧ ce = 0) (hEn : EntsAt w.heap.size w ie A.entries) (han : an = none → A.ends = [] ∧ cn = 0) (hEd : NumsAt w an A.ends) (hCh : ChgIn w ip A.change) :
    Calls Try.prog 9 #[.agg (apdv A (.slice ie A.entries.length ce) (.slice an A.ends.length cn) (.pointer ip)).toArray] w fun e w' => ∃ P, e = .returned (.pointer (some ⟨P, 0, none⟩)) ∧ ApdAt w'.heap.size w' P A ∧ Below w.heap.size w w' := by
  obtain ⟨ticket, epoch, start, prev, prevEpoch, entries, ends, commit, held, change, changes, changed, read⟩ := A
  obtain ⟨f0, f1, f2, f3, f4, f5, f6, f7, f8, f9, fc, fe, fel, fn, fnl⟩ := hf
  simp only at f0 f1 f2 f3 f4 f5 f6 f7 f8 f9 fc fe fel fn fnl hEn hEd hCh hie han
  obtain ⟨i56, hi56, hz560, hz561, hz562⟩ := info_parts Try.info56
  obtain ⟨i61, hi61, hz610, hz611, hz612⟩ := info_parts Try.info61
  unfold apdv
  simp only
  cases ie with
  | none =>
    obtain ⟨rfl, rfl⟩ := hie rfl
    have hnil := fun (w : World) => run_neq_slice_nil_any (P := Try.prog) w 23 42 none 0 0 0 0 Try.underlying23
    have hx0 : Below w.heap.size w ((w.alloc (.cells (apdv ⟨ticket, epoch, start, prev, prevEpoch, [], ends, commit, held, change, changes, changed, read⟩ (.slice none 0 0) (.slice an ends.length cn) (.pointer ip)).toArray 27)).alloc (.cells (pv ticket epoch start prev prevEpoch (.slice none 0 0) (.slice none 0 0) commit held (.pointer none) changes changed read) 52)) := ((Below.refl _ _).alloc (Nat.le_refl _) _).alloc (by simp) _
    have x6 : ((w.alloc (.cells (apdv ⟨ticket, epoch, start, prev, prevEpoch, [], ends, commit, held, change, changes, changed, read⟩ (.slice none 0 0) (.slice an ends.length cn) (.pointer ip)).toArray 27)).alloc (.cells (pv ticket epoch start prev prevEpoch (.slice none 0 0) (.slice none 0 0) commit held (.pointer none) changes changed read) 52)).cell? ⟨w.heap.size, 6, none⟩ = some (.slice an ends.length cn) := by rw [cell_of_row _ _ _ _ _ _ (heap_alloc2_old w _ _)]; rfl
    have x9 : ((w.alloc (.cells (apdv ⟨ticket, epoch, start, prev, prevEpoch, [], ends, commit, held, change, changes, changed, read⟩ (.slice none 0 0) (.slice an ends.length cn) (.pointer ip)).toArray 27)).alloc (.cells (pv ticket epoch start prev prevEpoch (.slice none 0 0) (.slice none 0 0) commit held (.pointer none) changes changed read) 52)).cell? ⟨w.heap.size, 9, none⟩ = some (.pointer ip) := by rw [cell_of_row _ _ _ _ _ _ (heap_alloc2_old w _ _)]; rfl
    have xp := heap_alloc2_new w (.cells (apdv ⟨ticket, epoch, start, prev, prevEpoch, [], ends, commit, held, change, changes, changed, read⟩ (.slice none 0 0) (.slice an ends.length cn) (.pointer ip)).toArray 27) (.cells (pv ticket epoch start prev prevEpoch (.slice none 0 0) (.slice none 0 0) commit held (.pointer none) changes changed read) 52)
    have hxs : w.heap.size + 1 < ((w.alloc (.cells (apdv ⟨ticket, epoch, start, prev, prevEpoch, [], ends, commit, held, change, changes, changed, read⟩ (.slice none 0 0) (.slice an ends.length cn) (.pointer ip)).toArray 27)).alloc (.cells (pv ticket epoch start prev prevEpoch (.slice none 0 0) (.slice none 0 0) commit held (.pointer none) changes changed read) 52)).heap.size := by simp
    go_enter Try.func9, Try.ntmps9
    go_wp2_with fail
    unfold apdv pv at hx0 x6 x9 xp hxs
    simp only at hx0 x6 x9 xp hxs
    generalize ((w.alloc (.cells #[.int .u64 (ticket : Int), .int .u64 (epoch : Int), .int .u64 (start : Int), .int .u64 (prev : Int), .int .u64 (prevEpoch : Int), .slice none 0 0, .slice an ends.length cn, .int .u64 (commit : Int), .int .u64 (held : Int), .pointer ip, .int .u64 (changes : Int), .int .u64 (changed : Int), .int .u64 (read : Int)] 27)).alloc (.cells #[.int .u64 (ticket : Int), .int .u64 (epoch : Int), .int .u64 (start : Int), .int .u64 (prev : Int), .int .u64 (prevEpoch : Int), .slice none 0 0, .slice none 0 0, .int .u64 (commit : Int), .int .u64 (held : Int), .pointer none, .int .u64 (changes : Int), .int .u64 (changed : Int), .int .u64 (read : Int)] 52)) = wx at *
    have hEx : EntsIn (w.heap.size + 1 + 1) wx.heap.size wx none [] := fun i hi => by simp at hi
    refine (clone_ends an ends cn wx han (hEd.below hx0 (fun b off e h => by obtain ⟨b', off', e', h', _⟩ := hEd 0 h; rw [e] at e'; cases e'; exact h')) fnl).mono ?_
    rintro e w3 ⟨a3, c3, rfl, hE3, hb3⟩
    have hEy := hEx.grow hb3
    have hE3' := hE3.lower (lo' := w.heap.size + 1 + 1) (by omega)
    have hz3 := hb3.size
    have yp := (hb3.block (w.heap.size + 1) hxs).trans xp
    have y9 := (hb3.cell (p := ⟨w.heap.size, 9, none⟩) (by simp; omega)).trans x9
    have hy0 : Below w.heap.size w w3 := hx0.trans (hb3.mono hx0.size)
    have p6 : w3.cell? ⟨w.heap.size + 1, 6, none⟩ = some (.slice none 0 0) := by rw [cell_of_row _ _ _ _ _ _ yp]; rfl
    have pf6 := cells_free yp 6
    clear x6 x9 xp hb3 hE3 hEx
    have z9 := (cell_set_other w3 (w.heap.size + 1) 6 w.heap.size 9 (.slice a3 ends.length c3) (by omega)).trans y9
    have zp : (w3.setCell ⟨w.heap.size + 1, 6, none⟩ (.slice a3 ends.length c3)).heap[w.heap.size + 1]? = some (.cells (pv ticket epoch start prev prevEpoch (.slice none ([] : List Ent).length 0) (.slice a3 ends.length c3) commit held (.pointer none) changes changed read) 52 (0, 0)) := cells_setCell yp 6 _
    have hz0 : Below w.heap.size w (w3.setCell ⟨w.heap.size + 1, 6, none⟩ (.slice a3 ends.length c3)) := hy0.setCell (by simp) _
    have hzs : w.heap.size + 1 < (w3.setCell ⟨w.heap.size + 1, 6, none⟩ (.slice a3 ends.length c3)).heap.size := by rw [size_set]; omega
    have hEz := hEy.set 6 (.slice a3 ends.length c3)
    have hNz := hE3'.set 6 (.slice a3 ends.length c3)
    generalize hwz : w3.setCell ⟨w.heap.size + 1, 6, none⟩ (.slice a3 ends.length c3) = wz at *
    have Hwz : Hid (w3.setCell ⟨w.heap.size + 1, 6, none⟩ (.slice a3 ends.length c3) = wz) := hwz
    clear hwz hx0 hxs hEy hE3' hz3 yp hy0
    cases change with
    | none =>
      obtain rfl : ip = none := hCh
      go_wp2
      go_ret
      rw [Hwz.out]
      exact ⟨w.heap.size + 1, rfl, ⟨_, _, _, _, _, hzs, pv_cells zp, hEz.at, hNz.at, rfl⟩, hz0⟩
    | some c =>
      obtain ⟨g, o, am, cm, rfl, hg, hcc, hmb, ham⟩ := hCh
      have hfc := fc c rfl
      have gcc : ∀ j u, (c.cells (.slice am c.members.length cm))[j]? = some u → wz.cell? ⟨g, o + j, none⟩ = some u := fun j u hj => (hz0.cell (p := ⟨g, o + j, none⟩) hg).trans (hcc j u hj)
      have e3 := gcc 3 _ rfl
      have e0 := gcc 0 _ rfl
      have e1 := gcc 1 _ rfl
      have e2 := gcc 2 _ rfl
      have e4 := gcc 4 _ rfl
      have e5 := gcc 5 _ rfl
      have e6 := gcc 6 _ rfl
      have e7 := gcc 7 _ rfl
      have e8 := gcc 8 _ rfl
      simp only [Nat.add_zero] at e0
      go_upto_if 81 with fail
      rw [Hwz.out]
      have hgz : g < wz.heap.size := Nat.lt_of_lt_of_le hg hz0.size
      have hgn : wz.heap.size ≠ g := by omega
      cases am with
      | none =>
        obtain ⟨hmem, rfl⟩ := ham rfl
        have hnil2 := fun (w : World) => run_neq_slice_nil_any (P := Try.prog) w 43 47 none 0 0 0 0 Try.underlying43
        have hml : c.members.length = 0 := by rw [hmem]; rfl
        rw [hml] at e3
        go_wp2
        go_region_held3 (fun w' => w'.cell? ⟨g, o, none⟩ = some (.int .u64 (c.number : Int)) ∧ w'.cell? ⟨g, o + 1, none⟩ = some (.int .u64 (c.epoch : Int)) ∧ w'.cell? ⟨g, o + 2, none⟩ = some (.int .u64 (c.after : Int)) ∧ w'.cell? ⟨g, o + 4, none⟩ = some (.int .u64 (c.goneID : Int)) ∧ w'.cell? ⟨g, o + 5, none⟩ = some (.string c.goneAddr) ∧ w'.cell? ⟨g, o + 6, none⟩ = some (.bool c.goneCounts) ∧ w'.cell? ⟨g, o + 7, none⟩ = some (.bool c.goneNonvoter) ∧ w'.cell? ⟨g, o + 8, none⟩ = some (.int .u64 (c.group : Int))) (go_keep) (fail)
        have F := to_finish (am := none) (cm := 0) (c := c) (by omega) zp hz0 hEz hNz (fun i hi => by omega) (fun b off e => by cases e)
        rw [hml] at F
        simp only [Chg.cells, cgv] at F
        clear e0 e1 e2 e3 e4 e5 e6 e7 e8 gcc hcc
        have p9 : wz.cell? ⟨w.heap.size + 1, 9, none⟩ = some (.pointer none) := by rw [cell_of_row _ _ _ _ _ _ zp]; rfl
        have pf9 := cells_free zp 9
        go_wp2
        go_ret
        exact ⟨w.heap.size + 1, rfl, F⟩
      | some adm =>
        have hml := hfc.2.2.2.2.2.2.2
        have hnil2 := fun (w : World) => run_neq_slice_nil_any (P := Try.prog) w 43 47 (some adm) c.members.length cm 0 0 Try.underlying43
        go_wp2_with (refine wpList_make_full _ rfl _ _ 58 rfl wz.heap.size 61 i61 _ 4 Try.underlying58 hi61 hz610 hz611 .i64 .i64 _ _ c.members.length rfl rfl rfl rfl (by rw [hz612]; omega) (by unfold maxLen; omega) (Nat.le_refl _) ?_; intro w5 hown5 hgr5; have hf5 := mfill0 hown5; have hb5 : Below wz.heap.size wz w5 := (Below.refl _ _).grown hgr5 (Nat.le_refl _) (fun k h => by cases h); clear hown5 hgr5; have e35 := (hb5.cell (p := ⟨g, o + 3, none⟩) hgz).trans e3)
        go_loopw [100, 9] (fun i _ wr => ∃ k : Nat, k ≤ c.members.length ∧ i = .int .i64 k ∧ MFill wz.heap.size k c.members wr ∧ Below wz.heap.size wz wr) (fun i _ _ => c.members.length - (intOf i).toNat)
        case atStart => exact ⟨0, Nat.zero_le _, rfl, hf5, hb5⟩
        case round =>
          obtain ⟨k, hk, rfl, hfr, hbr⟩ := hrel
          have e3r := (hbr.cell (p := ⟨g, o + 3, none⟩) hgz).trans e3
          have hbwr : Below w.heap.size w wr := hz0.trans (hbr.mono hz0.size)
          by_cases hlt : k < c.members.length
          · obtain ⟨b, off, e, hbl, hcs⟩ := (hmb.agree (Agree.of_below hbwr)) k hlt
            cases e
            generalize hE : c.members.getD k mbr0 = M at *
            obtain ⟨mid, mad, mc, mn⟩ := M
            have q0 := hcs 0 _ rfl
            have q1 := hcs 1 _ rfl
            have q2 := hcs 2 _ rfl
            have q3 := hcs 3 _ rfl
            simp only [Nat.add_zero] at q0
            simp only at q0 q1 q2 q3
            obtain ⟨z0, y0⟩ := hfr.cells hlt 0 (by omega)
            obtain ⟨z1, y1⟩ := hfr.cells hlt 1 (by omega)
            obtain ⟨z2, y2⟩ := hfr.cells hlt 2 (by omega)
            obtain ⟨z3, y3⟩ := hfr.cells hlt 3 (by omega)
            simp only [Nat.add_zero] at y0
            have hfz := hfr.free
            have hGl := hfr.lt
            have R1 := (hfr.step hlt hE).below ((Below.refl _ _).alloc (Nat.le_refl _) (.cells (mbv ⟨mid, mad, mc, mn⟩).toArray 47))
            have R2 := (putW_below (mbv ⟨mid, mad, mc, mn⟩) (k * 4) hbr (Nat.le_refl wz.heap.size)).alloc (by rw [putW_size]; omega) (.cells (mbv ⟨mid, mad, mc, mn⟩).toArray 47)
            clear hE hcs
            go_wp2
            go_roundw
            case rel => exact ⟨k + 1, by omega, by go_num, R1, R2⟩
            case measure => simp [intOf]; omega
          · obtain rfl : k = c.members.length := by omega
            have hin := hfr.in
            have zr := (hbr.block (w.heap.size + 1) hzs).trans zp
            have hEr := hEz.grow hbr
            have hNr := hNz.grow hbr
            have gcr : ∀ j u, (c.cells (.slice (some adm) c.members.length cm))[j]? = some u → wr.cell? ⟨g, o + j, none⟩ = some u := fun j u hj => (hbr.cell (p := ⟨g, o + j, none⟩) hgz).trans (gcc j u hj)
            have F := to_finish (am := some ⟨wz.heap.size, 0, none⟩) (cm := c.members.length) (c := c) (by omega) zr hbwr hEr hNr hin (fun b off e _ => by cases e; exact hzs)
            simp only [Chg.cells, cgv] at F
            clear e0 e1 e2 e3 e4 e5 e6 e7 e8 e35 e3r
            have e0 := gcr 0 _ rfl
            have e1 := gcr 1 _ rfl
            have e2 := gcr 2 _ rfl
            have e4 := gcr 4 _ rfl
            have e5 := gcr 5 _ rfl
            have e6 := gcr 6 _ rfl
            have e7 := gcr 7 _ rfl
            have e8 := gcr 8 _ rfl
            simp only [Nat.add_zero] at e0
            have hgr : g < wr.heap.size := Nat.lt_of_lt_of_le hgz hbr.size
            have hgn2 : wr.heap.size ≠ g := by omega
            have p9 : wr.cell? ⟨w.heap.size + 1, 9, none⟩ = some (.pointer none) := by rw [cell_of_row _ _ _ _ _ _ zr]; rfl
            have pf9 := cells_free zr 9
            have hPr := lt_of_block zr
            clear gcc gcr hcc hfr hbr hf5 hb5 hin zr hEr hNr hEz hNz zp z9 hnil2 hmb
            go_wp2
            go_region_held3 (fun w' => w'.cell? ⟨g, o, none⟩ = some (.int .u64 (c.number : Int)) ∧ w'.cell? ⟨g, o + 1, none⟩ = some (.int .u64 (c.epoch : Int)) ∧ w'.cell? ⟨g, o + 2, none⟩ = some (.int .u64 (c.after : Int)) ∧ w'.cell? ⟨g, o + 4, none⟩ = some (.int .u64 (c.goneID : Int)) ∧ w'.cell? ⟨g, o + 5, none⟩ = some (.string c.goneAddr) ∧ w'.cell? ⟨g, o + 6, none⟩ = some (.bool c.goneCounts) ∧ w'.cell? ⟨g, o + 7, none⟩ = some (.bool c.goneNonvoter) ∧ w'.cell? ⟨g, o + 8, none⟩ = some (.int .u64 (c.group : Int))) (go_keep) (fail)
            go_wp2
            go_ret
            exact ⟨w.heap.size + 1, rfl, F⟩
  | some ad =>
    have hnil := fun (w : World) => run_neq_slice_nil_any (P := Try.prog) w 23 42 (some ad) entries.length ce 0 0 Try.underlying23
    go_enter Try.func9, Try.ntmps9
    go_wp2_with (refine wpList_make_full _ rfl _ _ 49 rfl (w.heap.size + 1 + 1) 56 i56 _ 5 Try.underlying49 hi56 hz560 hz561 .i64 .i64 _ _ entries.length rfl rfl rfl rfl (by rw [hz562]; omega) (by unfold maxLen; omega) (by simp) ?_; intro w1 hown hgr; simp only [World.size_alloc] at hown; have hf1 := efill0 hown; have hb1 := (Below.refl (w.heap.size + 1 + 1) _).grown hgr (by simp) (fun k h => by cases h); have m5 := hb1.cell (p := ⟨w.heap.size, 5, none⟩) (by simp; omega); have m6 := hb1.cell (p := ⟨w.heap.size, 6, none⟩) (by simp; omega); have m9 := hb1.cell (p := ⟨w.heap.size, 9, none⟩) (by simp; omega); have pb := hb1.block (w.heap.size + 1) (by omega); rw [heap_alloc2_new] at pb; have hbw : Below w.heap.size w w1 := (((Below.refl _ _).alloc (Nat.le_refl _) _).alloc (by simp) _).trans (hb1.mono (by omega)); clear hown hgr hb1; simp at m5 m6 m9)
    obtain ⟨w1', hw1⟩ : ∃ x, x = w1 := ⟨_, rfl⟩
    go_loopw [44, 5] (fun i _ wr => ∃ k : Nat, k ≤ entries.length ∧ i = .int .i64 k ∧ EFill (w.heap.size + 1 + 1) k entries wr ∧ Below (w.heap.size + 1 + 1) w1 wr) (fun i _ _ => entries.length - (intOf i).toNat)
    case atStart => exact ⟨0, Nat.zero_le _, rfl, hf1, Below.refl _ _⟩
    case round =>
      obtain ⟨k, hk, rfl, hfr, hbr⟩ := hrel
      have n5 : wr.cell? ⟨w.heap.size, 5, none⟩ = some (.slice (some ad) entries.length ce) := (hbr.cell (p := ⟨w.heap.size, 5, none⟩) (by simp; omega)).trans m5
      have hbwr : Below w.heap.size w wr := hbw.trans (hbr.mono (by omega))
      by_cases hlt : k < entries.length
      · obtain ⟨b, off, ap, cp, e, hbl, hpay, hcs⟩ := (hEn.agree (Agree.of_below hbwr)) k hlt
        cases e
        generalize hE : entries.getD k ent0 = E at *
        obtain ⟨epos, eep, ecl, eseq, eps⟩ := E
        have q0 := hcs 0 _ rfl
        have q1 := hcs 1 _ rfl
        have q2 := hcs 2 _ rfl
        have q3 := hcs 3 _ rfl
        have q4 := hcs 4 _ rfl
        simp only [Nat.add_zero] at q0
        simp only at hpay q0 q1 q2 q3 q4
        have hsz : w.heap.size ≤ wr.heap.size := hbwr.size
        have hpb : BytesAt (wr.alloc (.cells #[.int .u64 epos, .int .u64 eep, .string ecl, .int .u64 eseq, .slice ap eps.length cp] 42)).drew ap eps := (hpay.bytes hsz).alloc _
        have hpl : eps.length ≤ 1048576 := by
          have := (fe (entries.getD k ent0) (by simp [List.getD, List.getElem?_eq_getElem hlt])).2.2.2.2
          rw [hE] at this; exact this
        have hap := hpay.1
        have hGl := hfr.lt
        obtain ⟨z0, y0⟩ := hfr.cells hlt 0 (by omega)
        obtain ⟨z1, y1⟩ := hfr.cells hlt 1 (by omega)
        obtain ⟨z2, y2⟩ := hfr.cells hlt 2 (by omega)
        obtain ⟨z3, y3⟩ := hfr.cells hlt 3 (by omega)
        obtain ⟨z4, y4⟩ := hfr.cells hlt 4 (by omega)
        simp only [Nat.add_zero] at y0
        have hfz := hfr.free
        have HE : Hid (entries.getD k ent0 = ⟨epos, eep, ecl, eseq, eps⟩) := hE
        have hk2 : ∀ (w2 : World) (o : Obj), Below (wr.alloc o).drew.heap.size (wr.alloc o).drew w2 → ∀ p : Addr, p.block < wr.heap.size → w2.cell? p = wr.cell? p ∧ w2.frozen? p = wr.frozen? p := fun w2 o h p hp => by
          have e : w2.heap[p.block]? = wr.heap[p.block]? := (h.block p.block (by simp; omega)).trans (Below.heap_alloc wr o p.block hp)
          exact ⟨World.cell?_of_block (w := wr) e, World.frozen?_of_block (w := wr) e⟩
        have hne1 : wr.heap.size ≠ w.heap.size + 1 + 1 := by omega
        have hne2 : w.heap.size + 1 + 1 ≠ wr.heap.size := by omega
        clear hE hcs hpay
        go_wp2
        go_region_held3 (fun w' => w'.cell? ⟨wr.heap.size, 0, none⟩ = some (.int .u64 epos) ∧ w'.cell? ⟨wr.heap.size, 1, none⟩ = some (.int .u64 eep) ∧ w'.cell? ⟨wr.heap.size, 2, none⟩ = some (.string ecl) ∧ w'.cell? ⟨wr.heap.size, 3, none⟩ = some (.int .u64 eseq) ∧ w'.cell? ⟨wr.heap.size, 4, none⟩ = some (.slice ap eps.length cp)) (go_keep)
          (first | (go_at_call 10; refine (clone_pay ap eps cp _ hap hpb hpl).mono ?_; rintro e w2 ⟨a2, c2, rfl, hpay2, hb2⟩; have hz2 := hb2.size; have k0 := hb2.cell (p := ⟨wr.heap.size, 0, none⟩) (by simp); have k1 := hb2.cell (p := ⟨wr.heap.size, 1, none⟩) (by simp); have k2 := hb2.cell (p := ⟨wr.heap.size, 2, none⟩) (by simp); have k3 := hb2.cell (p := ⟨wr.heap.size, 3, none⟩) (by simp); have k4 := hb2.cell (p := ⟨wr.heap.size, 4, none⟩) (by simp); simp at k0 k1 k2 k3 k4 hz2; have x0 := (hk2 _ _ hb2 ⟨w.heap.size + 1 + 1, k * 5, none⟩ hGl).1.trans y0; have x1 := (hk2 _ _ hb2 ⟨w.heap.size + 1 + 1, k * 5 + 1, none⟩ hGl).1.trans y1; have x2 := (hk2 _ _ hb2 ⟨w.heap.size + 1 + 1, k * 5 + 2, none⟩ hGl).1.trans y2; have x3 := (hk2 _ _ hb2 ⟨w.heap.size + 1 + 1, k * 5 + 3, none⟩ hGl).1.trans y3; have x4 := (hk2 _ _ hb2 ⟨w.heap.size + 1 + 1, k * 5 + 4, none⟩ hGl).1.trans y4; have xf := fun j => (hk2 _ _ hb2 ⟨w.heap.size + 1 + 1, j, none⟩ hGl).2.trans (hfz j)))
        have hGl2 : w.heap.size + 1 + 1 < wr.heap.size := hfr.lt
        have hfr2 : EFill (w.heap.size + 1 + 1) k entries w2 := (hfr.below ((Below.refl _ _).alloc (Nat.le_refl _) _).drew).below hb2
        have R1 := hfr2.step hlt HE.out (hpay2.lower (by show w.heap.size + 1 + 1 + 1 ≤ (wr.heap.push _).size; simp; omega))
        have R2 : Below (w.heap.size + 1 + 1) w1 w2 := ((hbr.alloc (Nat.le_of_lt hGl2) _).drew).trans (hb2.mono (by show w.heap.size + 1 + 1 ≤ (wr.heap.push _).size; simp; omega))
        have R3 := putW_below (env ⟨epos, eep, ecl, eseq, eps⟩ (.slice a2 eps.length c2)) (k * 5) R2 (Nat.le_refl (w.heap.size + 1 + 1))
        clear hfr2 R2 hpay2 hk2 hb2 k0 k1 k2 k3 k4 x0 x1 x2 x3 x4 xf hfz hpb hap
        go_wp2
        go_roundw
        case rel => exact ⟨k + 1, by omega, by go_num, R1, R3⟩
        case measure => simp [intOf]; omega
      · obtain rfl : k = entries.length := by omega
        have hEo := hfr.in (lo := w.heap.size + 1 + 1) (Nat.le_refl _)
        have pbr : wr.heap[w.heap.size + 1]? = _ := (hbr.block (w.heap.size + 1) (by omega)).trans pb
        have n6 := (hbr.cell (p := ⟨w.heap.size, 6, none⟩) (by simp; omega)).trans m6
        have n9 := (hbr.cell (p := ⟨w.heap.size, 9, none⟩) (by simp; omega)).trans m9
        have p5 : wr.cell? ⟨w.heap.size + 1, 5, none⟩ = some (.slice none 0 0) := by rw [cell_of_row _ _ _ _ _ _ pbr]; rfl
        have pf := cells_free pbr
        have hGl := hfr.lt
        clear hfr hbr hf1 pb m5 m6 m9 n5 hbw hw1
        go_wp2_with fail
        have x6 := (cell_set_other wr (w.heap.size + 1) 5 w.heap.size 6 (.slice (some ⟨w.heap.size + 1 + 1, 0, none⟩) entries.length entries.length) (by omega)).trans n6
        have x9 := (cell_set_other wr (w.heap.size + 1) 5 w.heap.size 9 (.slice (some ⟨w.heap.size + 1 + 1, 0, none⟩) entries.length entries.length) (by omega)).trans n9
        have xp : (wr.setCell ⟨w.heap.size + 1, 5, none⟩ (.slice (some ⟨w.heap.size + 1 + 1, 0, none⟩) entries.length entries.length)).heap[w.heap.size + 1]? = some (.cells (pv ticket epoch start prev prevEpoch (.slice (some ⟨w.heap.size + 1 + 1, 0, none⟩) entries.length entries.length) (.slice none 0 0) commit held (.pointer none) changes changed read) 52 (0, 0)) := cells_setCell pbr 5 _
        have hx0 : Below w.heap.size w (wr.setCell ⟨w.heap.size + 1, 5, none⟩ (.slice (some ⟨w.heap.size + 1 + 1, 0, none⟩) entries.length entries.length)) := hbwr.setCell (by simp) _
        have hxs : w.heap.size + 1 < (wr.setCell ⟨w.heap.size + 1, 5, none⟩ (.slice (some ⟨w.heap.size + 1 + 1, 0, none⟩) entries.length entries.length)).heap.size := by rw [size_set]; omega
        have hEx := hEo.set 5 (.slice (some ⟨w.heap.size + 1 + 1, 0, none⟩) entries.length entries.length)
        clear hEo pbr n6 n9 p5 pf hGl hbwr
        generalize wr.setCell ⟨w.heap.size + 1, 5, none⟩ (.slice (some ⟨w.heap.size + 1 + 1, 0, none⟩) entries.length entries.length) = wx at *
        refine (clone_ends an ends cn wx han (hEd.below hx0 (fun b off e h => by obtain ⟨b', off', e', h', _⟩ := hEd 0 h; rw [e] at e'; cases e'; exact h')) fnl).mono ?_
        rintro e w3 ⟨a3, c3, rfl, hE3, hb3⟩
        have hEy := hEx.grow hb3
        have hE3' := hE3.lower (lo' := w.heap.size + 1 + 1) (by omega)
        have hz3 := hb3.size
        have yp := (hb3.block (w.heap.size + 1) hxs).trans xp
        have y9 := (hb3.cell (p := ⟨w.heap.size, 9, none⟩) (by simp; omega)).trans x9
        have hy0 : Below w.heap.size w w3 := hx0.trans (hb3.mono hx0.size)
        have p6 : w3.cell? ⟨w.heap.size + 1, 6, none⟩ = some (.slice none 0 0) := by rw [cell_of_row _ _ _ _ _ _ yp]; rfl
        have pf6 := cells_free yp 6
        clear x6 x9 xp hb3 hE3 hEx
        have z9 := (cell_set_other w3 (w.heap.size + 1) 6 w.heap.size 9 (.slice a3 ends.length c3) (by omega)).trans y9
        have zp : (w3.setCell ⟨w.heap.size + 1, 6, none⟩ (.slice a3 ends.length c3)).heap[w.heap.size + 1]? = some (.cells (pv ticket epoch start prev prevEpoch (.slice (some ⟨w.heap.size + 1 + 1, 0, none⟩) entries.length entries.length) (.slice a3 ends.length c3) commit held (.pointer none) changes changed read) 52 (0, 0)) := cells_setCell yp 6 _
        have hz0 : Below w.heap.size w (w3.setCell ⟨w.heap.size + 1, 6, none⟩ (.slice a3 ends.length c3)) := hy0.setCell (by simp) _
        have hzs : w.heap.size + 1 < (w3.setCell ⟨w.heap.size + 1, 6, none⟩ (.slice a3 ends.length c3)).heap.size := by rw [size_set]; omega
        have hEz := hEy.set 6 (.slice a3 ends.length c3)
        have hNz := hE3'.set 6 (.slice a3 ends.length c3)
        generalize hwz : w3.setCell ⟨w.heap.size + 1, 6, none⟩ (.slice a3 ends.length c3) = wz at *
        have Hwz : Hid (w3.setCell ⟨w.heap.size + 1, 6, none⟩ (.slice a3 ends.length c3) = wz) := hwz
        clear hwz hx0 hxs hEy hE3' hz3 yp hy0
        cases change with
        | none =>
          obtain rfl : ip = none := hCh
          go_wp2
          go_ret
          rw [Hwz.out]
          exact ⟨w.heap.size + 1, rfl, ⟨_, _, _, _, _, hzs, pv_cells zp, hEz.at, hNz.at, rfl⟩, hz0⟩
        | some c =>
          obtain ⟨g, o, am, cm, rfl, hg, hcc, hmb, ham⟩ := hCh
          have hfc := fc c rfl
          have gcc : ∀ j u, (c.cells (.slice am c.members.length cm))[j]? = some u → wz.cell? ⟨g, o + j, none⟩ = some u := fun j u hj => (hz0.cell (p := ⟨g, o + j, none⟩) hg).trans (hcc j u hj)
          have e3 := gcc 3 _ rfl
          have e0 := gcc 0 _ rfl
          have e1 := gcc 1 _ rfl
          have e2 := gcc 2 _ rfl
          have e4 := gcc 4 _ rfl
          have e5 := gcc 5 _ rfl
          have e6 := gcc 6 _ rfl
          have e7 := gcc 7 _ rfl
          have e8 := gcc 8 _ rfl
          simp only [Nat.add_zero] at e0
          go_upto_if 81 with fail
          rw [Hwz.out]
          have hgz : g < wz.heap.size := Nat.lt_of_lt_of_le hg hz0.size
          have hgn : wz.heap.size ≠ g := by omega
          cases am with
          | none =>
            obtain ⟨hmem, rfl⟩ := ham rfl
            have hnil2 := fun (w : World) => run_neq_slice_nil_any (P := Try.prog) w 43 47 none 0 0 0 0 Try.underlying43
            have hml : c.members.length = 0 := by rw [hmem]; rfl
            rw [hml] at e3
            go_wp2
            go_region_held3 (fun w' => w'.cell? ⟨g, o, none⟩ = some (.int .u64 (c.number : Int)) ∧ w'.cell? ⟨g, o + 1, none⟩ = some (.int .u64 (c.epoch : Int)) ∧ w'.cell? ⟨g, o + 2, none⟩ = some (.int .u64 (c.after : Int)) ∧ w'.cell? ⟨g, o + 4, none⟩ = some (.int .u64 (c.goneID : Int)) ∧ w'.cell? ⟨g, o + 5, none⟩ = some (.string c.goneAddr) ∧ w'.cell? ⟨g, o + 6, none⟩ = some (.bool c.goneCounts) ∧ w'.cell? ⟨g, o + 7, none⟩ = some (.bool c.goneNonvoter) ∧ w'.cell? ⟨g, o + 8, none⟩ = some (.int .u64 (c.group : Int))) (go_keep) (fail)
            have F := to_finish (am := none) (cm := 0) (c := c) (by omega) zp hz0 hEz hNz (fun i hi => by omega) (fun b off e => by cases e)
            rw [hml] at F
            simp only [Chg.cells, cgv] at F
            clear e0 e1 e2 e3 e4 e5 e6 e7 e8 gcc hcc
            have p9 : wz.cell? ⟨w.heap.size + 1, 9, none⟩ = some (.pointer none) := by rw [cell_of_row _ _ _ _ _ _ zp]; rfl
            have pf9 := cells_free zp 9
            go_wp2
            go_ret
            exact ⟨w.heap.size + 1, rfl, F⟩
          | some adm =>
            have hml := hfc.2.2.2.2.2.2.2
            have hnil2 := fun (w : World) => run_neq_slice_nil_any (P := Try.prog) w 43 47 (some adm) c.members.length cm 0 0 Try.underlying43
            go_wp2_with (refine wpList_make_full _ rfl _ _ 58 rfl wz.heap.size 61 i61 _ 4 Try.underlying58 hi61 hz610 hz611 .i64 .i64 _ _ c.members.length rfl rfl rfl rfl (by rw [hz612]; omega) (by unfold maxLen; omega) (Nat.le_refl _) ?_; intro w5 hown5 hgr5; have hf5 := mfill0 hown5; have hb5 : Below wz.heap.size wz w5 := (Below.refl _ _).grown hgr5 (Nat.le_refl _) (fun k h => by cases h); clear hown5 hgr5; have e35 := (hb5.cell (p := ⟨g, o + 3, none⟩) hgz).trans e3)
            go_loopw [100, 9] (fun i _ wr => ∃ k : Nat, k ≤ c.members.length ∧ i = .int .i64 k ∧ MFill wz.heap.size k c.members wr ∧ Below wz.heap.size wz wr) (fun i _ _ => c.members.length - (intOf i).toNat)
            case atStart => exact ⟨0, Nat.zero_le _, rfl, hf5, hb5⟩
            case round =>
              obtain ⟨k, hk, rfl, hfr, hbr⟩ := hrel
              have e3r := (hbr.cell (p := ⟨g, o + 3, none⟩) hgz).trans e3
              have hbwr : Below w.heap.size w wr := hz0.trans (hbr.mono hz0.size)
              by_cases hlt : k < c.members.length
              · obtain ⟨b, off, e, hbl, hcs⟩ := (hmb.agree (Agree.of_below hbwr)) k hlt
                cases e
                generalize hE : c.members.getD k mbr0 = M at *
                obtain ⟨mid, mad, mc, mn⟩ := M
                have q0 := hcs 0 _ rfl
                have q1 := hcs 1 _ rfl
                have q2 := hcs 2 _ rfl
                have q3 := hcs 3 _ rfl
                simp only [Nat.add_zero] at q0
                simp only at q0 q1 q2 q3
                obtain ⟨z0, y0⟩ := hfr.cells hlt 0 (by omega)
                obtain ⟨z1, y1⟩ := hfr.cells hlt 1 (by omega)
                obtain ⟨z2, y2⟩ := hfr.cells hlt 2 (by omega)
                obtain ⟨z3, y3⟩ := hfr.cells hlt 3 (by omega)
                simp only [Nat.add_zero] at y0
                have hfz := hfr.free
                have hGl := hfr.lt
                have R1 := (hfr.step hlt hE).below ((Below.refl _ _).alloc (Nat.le_refl _) (.cells (mbv ⟨mid, mad, mc, mn⟩).toArray 47))
                have R2 := (putW_below (mbv ⟨mid, mad, mc, mn⟩) (k * 4) hbr (Nat.le_refl wz.heap.size)).alloc (by rw [putW_size]; omega) (.cells (mbv ⟨mid, mad, mc, mn⟩).toArray 47)
                clear hE hcs
                go_wp2
                go_roundw
                case rel => exact ⟨k + 1, by omega, by go_num, R1, R2⟩
                case measure => simp [intOf]; omega
              · obtain rfl : k = c.members.length := by omega
                have hin := hfr.in
                have zr := (hbr.block (w.heap.size + 1) hzs).trans zp
                have hEr := hEz.grow hbr
                have hNr := hNz.grow hbr
                have gcr : ∀ j u, (c.cells (.slice (some adm) c.members.length cm))[j]? = some u → wr.cell? ⟨g, o + j, none⟩ = some u := fun j u hj => (hbr.cell (p := ⟨g, o + j, none⟩) hgz).trans (gcc j u hj)
                have F := to_finish (am := some ⟨wz.heap.size, 0, none⟩) (cm := c.members.length) (c := c) (by omega) zr hbwr hEr hNr hin (fun b off e _ => by cases e; exact hzs)
                simp only [Chg.cells, cgv] at F
                clear e0 e1 e2 e3 e4 e5 e6 e7 e8 e35 e3r
                have e0 := gcr 0 _ rfl
                have e1 := gcr 1 _ rfl
                have e2 := gcr 2 _ rfl
                have e4 := gcr 4 _ rfl
                have e5 := gcr 5 _ rfl
                have e6 := gcr 6 _ rfl
                have e7 := gcr 7 _ rfl
                have e8 := gcr 8 _ rfl
                simp only [Nat.add_zero] at e0
                have hgr : g < wr.heap.size := Nat.lt_of_lt_of_le hgz hbr.size
                have hgn2 : wr.heap.size ≠ g := by omega
                have p9 : wr.cell? ⟨w.heap.size + 1, 9, none⟩ = some (.pointer none) := by rw [cell_of_row _ _ _ _ _ _ zr]; rfl
                have pf9 := cells_free zr 9
                have hPr := lt_of_block zr
                clear gcc gcr hcc hfr hbr hf5 hb5 hin zr hEr hNr hEz hNz zp z9 hnil2 hmb
                go_wp2
                go_region_held3 (fun w' => w'.cell? ⟨g, o, none⟩ = some (.int .u64 (c.number : Int)) ∧ w'.cell? ⟨g, o + 1, none⟩ = some (.int .u64 (c.epoch : Int)) ∧ w'.cell? ⟨g, o + 2, none⟩ = some (.int .u64 (c.after : Int)) ∧ w'.cell? ⟨g, o + 4, none⟩ = some (.int .u64 (c.goneID : Int)) ∧ w'.cell? ⟨g, o + 5, none⟩ = some (.string c.goneAddr) ∧ w'.cell? ⟨g, o + 6, none⟩ = some (.bool c.goneCounts) ∧ w'.cell? ⟨g, o + 7, none⟩ = some (.bool c.goneNonvoter) ∧ w'.cell? ⟨g, o + 8, none⟩ = some (.int .u64 (c.group : Int))) (go_keep) (fail)
                go_wp2
                go_ret
                exact ⟨w.heap.size + 1, rfl, F⟩
end Go.Proofs.Qxb6616158a
