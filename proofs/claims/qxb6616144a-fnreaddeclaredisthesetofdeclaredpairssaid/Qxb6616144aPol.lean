import Derived.Test.Qxb6616144aPolM
import Derived.Deep.CutRange
namespace Go.Proofs.Qxb6616144a
open Go.RowKit Go.Maps Go.Sort Go.Shelf

/-- What policyOf hands back. -/
def PolPost (es : List Ev) (ss : List Sc) (us : List Un) (w : World) (e : Ending) (w' : World) : Prop :=
  ∃ Q, e = .returned (.pointer (some ⟨Q, 0, none⟩)) ∧ Below w.heap.size w w' ∧ Pol w'.heap.size w' Q es (GS ss) (GU us)
/-- The policy under way. -/
def PolW (es : List Ev) (G1 G2 : List UInt8 → Option (List Rl)) (n1 n2 : Nat) (w0 w : World) : Prop :=
  ∃ ae ce m1 m2, w.heap[w0.heap.size]? = some (.cells (polv m1 m2 (.slice ae es.length ce)) 100 (0, 0)) ∧ EvsIn (w0.heap.size + 1) w ae es ∧ RM Sh4 (w0.heap.size + 1) w m1 n1 G1 ∧ RM Sh2 (w0.heap.size + 1) w m2 n2 G2 ∧ Below w0.heap.size w0 w

set_option maxRecDepth 100000 in
set_option maxHeartbeats 8000000 in
theorem policyOf_any (a1 a2 a3 : Option Addr) (es : List Ev) (ss : List Sc) (us : List Un) (c1 c2 c3 : Nat) (w : World) (he : EvsAt w.heap.size w a1 es) (hs : ScsAt w.heap.size w a2 ss) (hu : UnsAt w.heap.size w a3 us) (n1 : a1 = none → es = [] ∧ c1 = 0) (n2 : a2 = none → ss = [] ∧ c2 = 0) (n3 : a3 = none → us = [] ∧ c3 = 0) (l1 : es.length ≤ 1048576) (l2 : ss.length ≤ 1048576) (l3 : us.length ≤ 1048576)
    (r2 : ∀ i, i < ss.length → (ss.getD i sc0).rules.length ≤ 1048576) (r3 : ∀ i, i < us.length → (us.getD i un0).rules.length ≤ 1048576) :
    Calls Try.prog 14 #[.slice a1 es.length c1, .slice a2 ss.length c2, .slice a3 us.length c3] w (PolPost es ss us w) := by
  obtain ⟨i0, hi, hz0, hz1, hz2⟩ := info_parts info51
  have hk95 : ∀ (z : Int) (w : World), _ := fun z w => run_makeMap_hint (P := Try.prog) Try.underlying95 z w
  have hk96 : ∀ (z : Int) (w : World), _ := fun z w => run_makeMap_hint (P := Try.prog) Try.underlying96 z w
  have hnl1 := fun (w : World) => run_neq_slice_nil_any (P := Try.prog) w 37 71 a1 es.length c1 0 0 Try.underlying37
  have hnl2 := fun (w : World) => run_neq_slice_nil_any (P := Try.prog) w 38 74 a2 ss.length c2 0 0 Try.underlying38
  have hnl3 := fun (w : World) => run_neq_slice_nil_any (P := Try.prog) w 39 78 a3 us.length c3 0 0 Try.underlying39
  go_enter Try.func14, Try.ntmps14
  go_upto_if 17 with fail
  go_cut [8, 9] from 18 to 44 (fun _ _ wx => PolW es (fun _ => none) (fun _ => none) 0 0 w wx)
  case first =>
    have hp := heap_alloc_new w (.cells #[.map none, .slice none 0 0, .int .i64 0, .pointer none, .slice none 0 0, .map none, .map none, .slice none 0 0, .nilIface] 100)
    have hb0 := (Below.refl w.heap.size w).alloc (Nat.le_refl _) (.cells #[.map none, .slice none 0 0, .int .i64 0, .pointer none, .slice none 0 0, .map none, .map none, .slice none 0 0, .nilIface] 100)
    have hsz : (w.alloc (.cells #[.map none, .slice none 0 0, .int .i64 0, .pointer none, .slice none 0 0, .map none, .map none, .slice none 0 0, .nilIface] 100)).heap.size = w.heap.size + 1 := by simp
    generalize w.alloc (.cells #[.map none, .slice none 0 0, .int .i64 0, .pointer none, .slice none 0 0, .map none, .map none, .slice none 0 0, .nilIface] 100) = wp at *
    have HZ : Hid (wp.heap.size = w.heap.size + 1) := hsz
    clear hsz
    cases a1 with
    | none =>
      obtain ⟨rfl, rfl⟩ := n1 rfl
      go_wp2
      go_meet
      case rel => exact ⟨none, 0, none, none, hp, fun i hi => (by simp at hi), rm_nil _ _ _, rm_nil _ _ _, hb0⟩
    | some ad =>
      go_wp2_with (refine wpList_make_full _ rfl _ _ 48 rfl wp.heap.size 51 i0 _ 2 Try.underlying48 hi hz0 hz1 .i64 .i64 _ _ es.length rfl rfl rfl rfl (by rw [hz2]; omega) (by unfold maxLen; omega) (Nat.le_refl _) ?_; intro w5 hown5 hgr5; have hf5 := gfill0 (f := fun i => evv (es.getD i ev0)) hown5; have hb5 : Below wp.heap.size wp w5 := (Below.refl _ _).grown hgr5 (Nat.le_refl _) (fun k h => by cases h); clear hown5 hgr5)
      go_loopw [9] (fun i wr => ∃ k : Nat, k ≤ es.length ∧ i = .int .i64 k ∧ GFill 51 2 wp.heap.size k es.length (fun i => evv (es.getD i ev0)) wr ∧ Below wp.heap.size wp wr) (fun i _ => es.length - (intOf i).toNat)
      case atStart => exact ⟨0, Nat.zero_le _, rfl, hf5, hb5⟩
      case round =>
        obtain ⟨k, hk, rfl, hfr, hbr⟩ := hrel
        have hbw : Below w.heap.size w wr := hb0.trans (hbr.mono (by have := HZ.out; omega))
        by_cases hlt : k < es.length
        · obtain ⟨b, off, e, hbl, ⟨g0, g1⟩, hcs⟩ := (he.keep hbw) k hlt
          cases e
          generalize hE : es.getD k ev0 = M at *
          obtain ⟨mid, mad⟩ := M
          have q0 := hcs 0 _ rfl
          have q1 := hcs 1 _ rfl
          simp only [Nat.add_zero] at q0
          simp only at q0 q1
          obtain ⟨z0, y0⟩ := hfr.cells hlt 0 (by omega)
          obtain ⟨z1, y1⟩ := hfr.cells hlt 1 (by omega)
          simp only [Nat.add_zero] at y0
          have hfz := hfr.free
          have R1 := hfr.step hlt (show evv (es.getD k ev0) = _ by rw [hE]) (fun i => rfl)
          have R2 := putW_below (evv ⟨mid, mad⟩) (k * 2) hbr (Nat.le_refl wp.heap.size)
          have hlen : (k : Int) < es.length := by omega
          have hk0 : (0 : Int) ≤ k := by omega
          clear hE hcs hfr
          go_wp2
          go_region
          go_wp2
          go_roundw
          case rel => exact ⟨k + 1, by omega, by go_num, R1, R2.drew⟩
          case measure => simp [intOf]; omega
        · obtain rfl : k = es.length := by omega
          have hpr := (hbr.block w.heap.size (by have := HZ.out; omega)).trans hp
          have p7 : wr.cell? ⟨w.heap.size, 7, none⟩ = some (.slice none 0 0) := by rw [cell_row _ _ _ _ hpr]; rfl
          have pf7 := cells_free hpr 7
          have hin : EvsIn (w.heap.size + 1) wr (some ⟨wp.heap.size, 0, none⟩) es := fun i hi => by
            obtain ⟨_, _, _, _, hzz, _⟩ := he i hi
            have hlt' := hfr.lt
            obtain ⟨cur, h1, h2, h3⟩ := hfr
            exact ⟨wp.heap.size, 0, rfl, by have := HZ.out; omega, hlt', hzz, fun j u hj => by rw [cell_row _ _ _ _ h1, Nat.zero_add]; exact h3 i hi j u hj⟩
          go_wp2
          go_meet
          case rel =>
            exact ⟨_, _, none, none, cells_setCell hpr 7 _, hin.kc (KCf.of_set _ _ _ _), rm_nil _ _ _, rm_nil _ _ _, hbw.setCell (p := ⟨w.heap.size, 7, none⟩) (Nat.le_refl _) _⟩
  case rest =>
    have h1 : PolW es (fun _ => none) (fun _ => none) 0 0 w wc := hcut
    clear hcut
    go_upto_if 46 with fail
    go_cut [10, 11] from 47 to 87 (fun _ _ wx => PolW es (GS ss) (fun _ => none) ss.length 0 w wx)
    case first =>
      cases a2 with
      | none =>
        obtain ⟨rfl, rfl⟩ := n2 rfl
        go_wp2
        go_meet
        case rel => exact h1
      | some ad =>
        simp only [Option.isSome_some]
        obtain ⟨ae, ce, m1, m2, hp, hE, hM1, hM2, hb⟩ := h1
        have hwc : w.heap.size < wc.heap.size := lt_of_block hp
        have hm0 := rm_made Sh4 (w.heap.size + 1) wc hwc
        have kc0 : KCf (w.heap.size + 1) wc (wc.alloc (.map #[] 0)) := KCf.of_grown (World.grownBy_alloc wc _ none) (fun r e => by cases e)
        have hO0 := hM2.kc kc0 (fun b e => Below.heap_alloc _ _ _ (hM2.lt b e))
        have hOl0 := fun b e => hM2.lt b e
        have hp0 := (Below.heap_alloc wc (.map #[] 0) w.heap.size hwc).trans hp
        have hE0 := hE.kc kc0
        have hb0 : Below w.heap.size w (wc.alloc (.map #[] 0)) := hb.alloc (Nat.le_of_lt hwc) _
        clear hM1 hM2 hE
        go_wp2
        go_loopw [11] (fun i wr => ∃ k : Nat, k ≤ ss.length ∧ i = .int .i64 k ∧ wr.heap[w.heap.size]? = some (.cells (polv m1 m2 (.slice ae es.length ce)) 100 (0, 0)) ∧ EvsIn (w.heap.size + 1) wr ae es ∧ RM Sh4 (w.heap.size + 1) wr (some wc.heap.size) k (GS (ss.take k)) ∧ RM Sh2 (w.heap.size + 1) wr m2 0 (fun _ => none) ∧ Below w.heap.size w wr) (fun i _ => ss.length - (intOf i).toNat)
        case atStart => exact ⟨0, Nat.zero_le _, rfl, hp0, hE0, hm0, hO0, hb0⟩
        case round =>
          obtain ⟨k, hk, rfl, hp4, hE4, hM4, hO4, hb4⟩ := hrel
          have hbr := hb4
          by_cases hlt : k < ss.length
          · obtain ⟨b, off, au, cu, ar, cr, e, hbl, ⟨g0, g1, g2, g3, g4⟩, hU, hR, _, har, hcs⟩ := (hs.keep hbr) k hlt
            cases e
            have hrl := r2 k hlt
            have htk := take_snoc sc0 hlt
            generalize hRR : ss.getD k sc0 = R at *
            obtain ⟨key, id, par, un, rl⟩ := R
            have q0 := hcs 0 _ rfl
            have q1 := hcs 1 _ rfl
            have q2 := hcs 2 _ rfl
            have q3 := hcs 3 _ rfl
            have q4 := hcs 4 _ rfl
            simp only [Nat.add_zero] at q0
            simp only at q0 q1 q2 q3 q4 g0 hR har hrl
            have hRd : RlsAt wr.drew.heap.size wr.drew ar rl := fun i hi => by
              obtain ⟨b', off', e', h1', h2', h3'⟩ := hR i hi
              exact ⟨b', off', e', Nat.lt_of_lt_of_le h1' hbr.size, h2', h3'⟩
            obtain ⟨D, hD, hlo, hkk⟩ := hM4
            have hDl := World.ownsMap.lt hD
            have hlen : (k : Int) < ss.length := by omega
            have hk0 : (0 : Int) ≤ k := by omega
            have hkey : keyOf Try.prog 9 (.string key) = some (.string key.data.toList) := by simp [keyOf, Try.underlying9, mapKey, g0]
            have HK : Hid (GS (ss.take (k + 1)) = fun x => if x = key.data.toList then some rl else GS (ss.take k) x) := by show GS (ss.take (k + 1)) = _; rw [htk]; exact GK_snoc _ _ _ _
            have hwl : w.heap.size ≤ wr.heap.size := hbr.size
            have hbl' : b < wr.heap.size := by omega
            clear hcs hRR htk hR
            go_wp2
            go_region_held3 (fun w' => w'.cell? ⟨b, off + k * 5, none⟩ = some (.string key) ∧ w'.cell? ⟨b, off + k * 5 + 1, none⟩ = some (.string id) ∧ w'.cell? ⟨b, off + k * 5 + 2, none⟩ = some (.string par) ∧ w'.cell? ⟨b, off + k * 5 + 3, none⟩ = some (.slice au un.length cu) ∧ w'.cell? ⟨b, off + k * 5 + 4, none⟩ = some (.slice ar rl.length cr)) (go_keep)
              (first | (go_at_call 22; refine (rules_any ar rl cr _ har hRd hrl).mono ?_; rintro e w2 ⟨a2', c2', rfl, hrl2, hb2⟩; obtain ⟨w3, hrun, hown3, hgr3⟩ := World.ownsMap.update (H := Value) (w := w2) (D := D) (R := hR) (b := wc.heap.size) (n := k) (OwnsO.keep (m := some wc.heap.size) (w := wr.drew) hD (fun b e => by cases e; exact hb2.block _ hDl)) keyed9 Try.underlying95 (by unfold maxLen; omega) hkey (val := .agg #[.string id, .string par, .slice au un.length cu, .slice a2' rl.length c2']) rfl; have hz2 := hb2.size; have hcM : ∃ o : Obj, w2.heap[wc.heap.size]? = some o ∧ o.isCells = false := (by obtain ⟨o, h1, h2⟩ := ownsMap_notCells hD; exact ⟨o, (hb2.block _ hDl).trans h1, h2⟩); have k0 := (hb2.cell (p := ⟨b, off + k * 5, none⟩) hbl').trans q0; have m0' := cell_kept k0 hgr3 (fun r e => by cases e; exact hcM); have k1 := (hb2.cell (p := ⟨b, off + k * 5 + 1, none⟩) hbl').trans q1; have m1' := cell_kept k1 hgr3 (fun r e => by cases e; exact hcM); have k2 := (hb2.cell (p := ⟨b, off + k * 5 + 2, none⟩) hbl').trans q2; have m2' := cell_kept k2 hgr3 (fun r e => by cases e; exact hcM); have k3 := (hb2.cell (p := ⟨b, off + k * 5 + 3, none⟩) hbl').trans q3; have m3' := cell_kept k3 hgr3 (fun r e => by cases e; exact hcM); have k4 := (hb2.cell (p := ⟨b, off + k * 5 + 4, none⟩) hbl').trans q4; have m4' := cell_kept k4 hgr3 (fun r e => by cases e; exact hcM)))
            have hQl := lt_of_block hp4
            have kc1 : KCf (w.heap.size + 1) wr w2 := KCf.of_below (w := wr.drew) hb2
            have kc2 : KCf (w.heap.size + 1) w2 w3 := KCf.of_grown hgr3 (fun r e => by cases e; exact hcM)
            have hz2' : wr.heap.size ≤ w2.heap.size := hz2
            have hp5 := (hgr3.block w.heap.size (by omega) (fun e => by have := Option.some.inj e; omega)).trans ((hb2.block w.heap.size hQl).trans hp4)
            have hE5 := hE4.kc (kc1.trans kc2)
            have hO5 := hO4.kc (kc1.trans kc2) (fun b e => (hgr3.block b (by have := hOl0 b e; omega) (fun e' => by have := Option.some.inj e'; have := hOl0 _ e; omega)).trans (hb2.block b (by show b < wr.heap.size; have := hOl0 b e; omega)))
            have hM5 := RM.put (Sh := Sh4) (lo := w.heap.size + 1) (G := GS (ss.take k)) (OwnsO.keep (m := some wc.heap.size) (w := wr.drew) hD (fun b e => by cases e; exact hb2.block _ hDl)) (hlo _ rfl) (hkk.kc kc1) hown3 hgr3 ⟨id, par, au, un.length, cu, rfl⟩ (hrl2.lower (by show w.heap.size + 1 ≤ wr.heap.size; omega)) hrl
            rw [← HK.out] at hM5
            have hb5 : Below w.heap.size w w3 := (hb4.drew.trans (hb2.mono hwl)).grown hgr3 (by omega) (fun q e => by cases e; omega)
            clear hE4 hO4 hkk hD kc1 kc2 hp4 hb4
            go_wp2
            go_roundw
            case rel => exact ⟨k + 1, by omega, by go_num, hp5, hE5, hM5, hO5, hb5⟩
            case measure => simp [intOf]; omega
          · obtain rfl : k = ss.length := by omega
            rw [List.take_length] at hM4
            have p5 : wr.cell? ⟨w.heap.size, 5, none⟩ = some (.map m1) := by rw [cell_row _ _ _ _ hp4]; rfl
            have pf5 := cells_free hp4 5
            have hM4b : ∀ b, some wc.heap.size = some b → w.heap.size + 1 ≤ b := fun b e => by cases e; omega
            have hO4b : ∀ b, m2 = some b → w.heap.size + 1 ≤ b := by obtain ⟨_, _, h, _⟩ := hO4; exact h
            go_wp2
            go_meet
            case rel => exact ⟨ae, ce, some wc.heap.size, m2, cells_setCell hp4 5 _, hE4.kc (KCf.of_set _ _ _ _), hM4.kc (KCf.of_set _ _ _ _) (fun b e => Below.heap_setCell _ ⟨w.heap.size, 5, none⟩ _ b (by show b ≠ w.heap.size; have := hM4b b e; omega)), hO4.kc (KCf.of_set _ _ _ _) (fun b e => Below.heap_setCell _ ⟨w.heap.size, 5, none⟩ _ b (by show b ≠ w.heap.size; have := hO4b b e; omega)), hb4.setCell (p := ⟨w.heap.size, 5, none⟩) (Nat.le_refl _) _⟩
    case rest =>
      have h2 : PolW es (GS ss) (fun _ => none) ss.length 0 w wc := hcut
      clear hcut h1
      go_upto_if 89 with fail
      go_cut [12, 13] from 90 to 120 (fun _ _ wx => PolW es (GS ss) (GU us) ss.length us.length w wx)
      case first =>
        cases a3 with
        | none =>
          obtain ⟨rfl, rfl⟩ := n3 rfl
          go_wp2
          go_meet
          case rel => exact h2
        | some ad =>
          simp only [Option.isSome_some]
          obtain ⟨ae, ce, m1, m2, hp, hE, hM1, hM2, hb⟩ := h2
          have hwc : w.heap.size < wc.heap.size := lt_of_block hp
          have hm0 := rm_made Sh2 (w.heap.size + 1) wc hwc
          have kc0 : KCf (w.heap.size + 1) wc (wc.alloc (.map #[] 0)) := KCf.of_grown (World.grownBy_alloc wc _ none) (fun r e => by cases e)
          have hO0 := hM1.kc kc0 (fun b e => Below.heap_alloc _ _ _ (hM1.lt b e))
          have hOl0 := fun b e => hM1.lt b e
          have hp0 := (Below.heap_alloc wc (.map #[] 0) w.heap.size hwc).trans hp
          have hE0 := hE.kc kc0
          have hb0 : Below w.heap.size w (wc.alloc (.map #[] 0)) := hb.alloc (Nat.le_of_lt hwc) _
          clear hM1 hM2 hE
          go_wp2
          go_loopw [13] (fun i wr => ∃ k : Nat, k ≤ us.length ∧ i = .int .i64 k ∧ wr.heap[w.heap.size]? = some (.cells (polv m1 m2 (.slice ae es.length ce)) 100 (0, 0)) ∧ EvsIn (w.heap.size + 1) wr ae es ∧ RM Sh2 (w.heap.size + 1) wr (some wc.heap.size) k (GU (us.take k)) ∧ RM Sh4 (w.heap.size + 1) wr m1 ss.length (GS ss) ∧ Below w.heap.size w wr) (fun i _ => us.length - (intOf i).toNat)
          case atStart => exact ⟨0, Nat.zero_le _, rfl, hp0, hE0, hm0, hO0, hb0⟩
          case round =>
            obtain ⟨k, hk, rfl, hp4, hE4, hM4, hO4, hb4⟩ := hrel
            have hbr := hb4
            by_cases hlt : k < us.length
            · obtain ⟨b, off, ar, cr, e, hbl, ⟨g0, g1, g4⟩, hR, har, hcs⟩ := (hu.keep hbr) k hlt
              cases e
              have hrl := r3 k hlt
              have htk := take_snoc un0 hlt
              generalize hRR : us.getD k un0 = R at *
              obtain ⟨key, id, rl⟩ := R
              have q0 := hcs 0 _ rfl
              have q1 := hcs 1 _ rfl
              have q2 := hcs 2 _ rfl
              simp only [Nat.add_zero] at q0
              simp only at q0 q1 q2 g0 hR har hrl
              have hRd : RlsAt wr.drew.heap.size wr.drew ar rl := fun i hi => by
                obtain ⟨b', off', e', h1', h2', h3'⟩ := hR i hi
                exact ⟨b', off', e', Nat.lt_of_lt_of_le h1' hbr.size, h2', h3'⟩
              obtain ⟨D, hD, hlo, hkk⟩ := hM4
              have hDl := World.ownsMap.lt hD
              have hlen : (k : Int) < us.length := by omega
              have hk0 : (0 : Int) ≤ k := by omega
              have hkey : keyOf Try.prog 9 (.string key) = some (.string key.data.toList) := by simp [keyOf, Try.underlying9, mapKey, g0]
              have HK : Hid (GU (us.take (k + 1)) = fun x => if x = key.data.toList then some rl else GU (us.take k) x) := by show GU (us.take (k + 1)) = _; rw [htk]; exact GK_snoc _ _ _ _
              have hwl : w.heap.size ≤ wr.heap.size := hbr.size
              have hbl' : b < wr.heap.size := by omega
              clear hcs hRR htk hR
              go_wp2
              go_region_held3 (fun w' => w'.cell? ⟨b, off + k * 3, none⟩ = some (.string key) ∧ w'.cell? ⟨b, off + k * 3 + 1, none⟩ = some (.string id) ∧ w'.cell? ⟨b, off + k * 3 + 2, none⟩ = some (.slice ar rl.length cr)) (go_keep)
                (first | (go_at_call 22; refine (rules_any ar rl cr _ har hRd hrl).mono ?_; rintro e w2 ⟨a2', c2', rfl, hrl2, hb2⟩; obtain ⟨w3, hrun, hown3, hgr3⟩ := World.ownsMap.update (H := Value) (w := w2) (D := D) (R := hR) (b := wc.heap.size) (n := k) (OwnsO.keep (m := some wc.heap.size) (w := wr.drew) hD (fun b e => by cases e; exact hb2.block _ hDl)) keyed9 Try.underlying96 (by unfold maxLen; omega) hkey (val := .agg #[.string id, .slice a2' rl.length c2']) rfl; have hz2 := hb2.size; have hcM : ∃ o : Obj, w2.heap[wc.heap.size]? = some o ∧ o.isCells = false := (by obtain ⟨o, h1, h2⟩ := ownsMap_notCells hD; exact ⟨o, (hb2.block _ hDl).trans h1, h2⟩); have k0 := (hb2.cell (p := ⟨b, off + k * 3, none⟩) hbl').trans q0; have m0' := cell_kept k0 hgr3 (fun r e => by cases e; exact hcM); have k1 := (hb2.cell (p := ⟨b, off + k * 3 + 1, none⟩) hbl').trans q1; have m1' := cell_kept k1 hgr3 (fun r e => by cases e; exact hcM); have k2 := (hb2.cell (p := ⟨b, off + k * 3 + 2, none⟩) hbl').trans q2; have m2' := cell_kept k2 hgr3 (fun r e => by cases e; exact hcM)))
              have hQl := lt_of_block hp4
              have kc1 : KCf (w.heap.size + 1) wr w2 := KCf.of_below (w := wr.drew) hb2
              have kc2 : KCf (w.heap.size + 1) w2 w3 := KCf.of_grown hgr3 (fun r e => by cases e; exact hcM)
              have hz2' : wr.heap.size ≤ w2.heap.size := hz2
              have hp5 := (hgr3.block w.heap.size (by omega) (fun e => by have := Option.some.inj e; omega)).trans ((hb2.block w.heap.size hQl).trans hp4)
              have hE5 := hE4.kc (kc1.trans kc2)
              have hO5 := hO4.kc (kc1.trans kc2) (fun b e => (hgr3.block b (by have := hOl0 b e; omega) (fun e' => by have := Option.some.inj e'; have := hOl0 _ e; omega)).trans (hb2.block b (by show b < wr.heap.size; have := hOl0 b e; omega)))
              have hM5 := RM.put (Sh := Sh2) (lo := w.heap.size + 1) (G := GU (us.take k)) (OwnsO.keep (m := some wc.heap.size) (w := wr.drew) hD (fun b e => by cases e; exact hb2.block _ hDl)) (hlo _ rfl) (hkk.kc kc1) hown3 hgr3 ⟨id, rfl⟩ (hrl2.lower (by show w.heap.size + 1 ≤ wr.heap.size; omega)) hrl
              rw [← HK.out] at hM5
              have hb5 : Below w.heap.size w w3 := (hb4.drew.trans (hb2.mono hwl)).grown hgr3 (by omega) (fun q e => by cases e; omega)
              clear hE4 hO4 hkk hD kc1 kc2 hp4 hb4
              go_wp2
              go_roundw
              case rel => exact ⟨k + 1, by omega, by go_num, hp5, hE5, hM5, hO5, hb5⟩
              case measure => simp [intOf]; omega
            · obtain rfl : k = us.length := by omega
              rw [List.take_length] at hM4
              have p5 : wr.cell? ⟨w.heap.size, 6, none⟩ = some (.map m2) := by rw [cell_row _ _ _ _ hp4]; rfl
              have pf5 := cells_free hp4 6
              have hM4b : ∀ b, some wc.heap.size = some b → w.heap.size + 1 ≤ b := fun b e => by cases e; omega
              have hO4b : ∀ b, m1 = some b → w.heap.size + 1 ≤ b := by obtain ⟨_, _, h, _⟩ := hO4; exact h
              go_wp2
              go_meet
              case rel => exact ⟨ae, ce, m1, some wc.heap.size, cells_setCell hp4 6 _, hE4.kc (KCf.of_set _ _ _ _), hO4.kc (KCf.of_set _ _ _ _) (fun b e => Below.heap_setCell _ ⟨w.heap.size, 6, none⟩ _ b (by show b ≠ w.heap.size; have := hO4b b e; omega)), hM4.kc (KCf.of_set _ _ _ _) (fun b e => Below.heap_setCell _ ⟨w.heap.size, 6, none⟩ _ b (by show b ≠ w.heap.size; have := hM4b b e; omega)), hb4.setCell (p := ⟨w.heap.size, 6, none⟩) (Nat.le_refl _) _⟩
      case rest =>
        have h3 : PolW es (GS ss) (GU us) ss.length us.length w wc := hcut
        clear hcut h2
        go_wp2
        go_ret
        obtain ⟨ae, ce, m1, m2, hp, hE, hM1, hM2, hb⟩ := h3
        exact ⟨w.heap.size, rfl, hb, ae, ce, m1, m2, lt_of_block hp, by rw [cell_row _ _ _ _ hp]; rfl, by rw [cell_row _ _ _ _ hp]; rfl, by rw [cell_row _ _ _ _ hp]; rfl, hE.at, hM1.rmap l2, hM2.rmap l3⟩
end Go.Proofs.Qxb6616144a
