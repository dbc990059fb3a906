import Derived.Test.Qxb6616144aPairs
import Derived.Deep.CutBlock
import Derived.Deep.CutRange
import Derived.Deep.AppendLies
import Derived.WalkArith
namespace Go.Proofs.Qxb6616144a
open Go.RowKit Go.Maps

theorem pair_one (a b : ByteArray) : ∀ u ∈ [Value.string a, .string b], u.oneCell' = true := by
  intro u hu
  simp only [List.mem_cons, List.not_mem_nil, or_false] at hu
  rcases hu with rfl | rfl <;> rfl
theorem cell2_new (W : World) (a b : Value) (t : TypeId) : ∀ j u, [a, b][j]? = some u → (W.alloc (.cells #[a, b] t)).cell? (Addr.add ⟨W.heap.size, 0, none⟩ j) = some u := fun j u hj => by
  have e : (⟨W.heap.size, 0, none⟩ : Addr).add j = ⟨W.heap.size, j, none⟩ := by simp [Addr.add]; exact fun h => h.symm
  rw [e, cell_row _ _ _ _ (heap_alloc_new W _)]
  simpa using hj
theorem keyOf9 {s : ByteArray} (h : s.size ≤ maxLen) : keyOf Try.prog 9 (.string s) = some (.string s.data.toList) := by simp [keyOf, Try.underlying9, mapKey, h]
def SegP (w : World) (v : Value) (wx : World) (ps : List (ByteArray × ByteArray)) (M N : Nat) (K : Nat → List UInt8) : Prop :=
  RowP w v wx ps ∧ wx.ownsMap Try.prog 9 (plainElem (H := Unit) Try.prog 3) M N (intD K N)
theorem rowP_ne {H : Type} {P : Program} {k : TypeId} {R : Value → Option (DataW H × List MemPlace)} {w : World} {b n : Nat} {D : DataW H} (h : w.ownsMap P k R b n D) {base e sz m : Nat} {v : Value} {xs : List Value} (hr : w.ownsRow base e sz v m xs) : v.ownBlock = none ∨ v.ownBlock ≠ some b := by
  obtain ⟨es, clock, hb, _⟩ := h
  rcases hr.2 with ⟨rfl, _⟩ | ⟨g, cap, cur, rfl, _, hg, _⟩
  · exact .inl rfl
  · refine .inr fun e => ?_
    have e' : g = b := by simpa [Value.ownBlock] using e
    subst e'
    rw [hg] at hb
    cases hb
def DpPost (es : List Ev) (ss : List Sc) (us : List Un) (w : World) (e : Ending) (w' : World) : Prop :=
  ∃ a c pl, e = .returned (.slice a pl.length c) ∧ RowP w (.slice a pl.length c) w' pl ∧ pl.length ≤ 1048576 ∧
    pl = evPairs es ++ accP (fun i => (ss.getD i sc0).key.data.toList) (fun i => (ss.getD i sc0).rules) ss.length ss.length ++ accP (fun i => (us.getD i un0).key.data.toList) (fun i => (us.getD i un0).rules) us.length us.length

set_option maxRecDepth 100000 in
set_option maxHeartbeats 8000000 in
theorem pairs_any (a1 a2 a3 : Option Addr) (es : List Ev) (ss : List Sc) (us : List Un) (c1 c2 c3 : Nat) (w : World) (he : EvsAt w.heap.size w a1 es) (hs : ScsAt w.heap.size w a2 ss) (hu : UnsAt w.heap.size w a3 us) (l1 : es.length ≤ 1048576) (l2 : ss.length ≤ 1048576) (l3 : us.length ≤ 1048576)
    (hsum : es.length + rsum (fun i => (ss.getD i sc0).rules) ss.length + rsum (fun i => (us.getD i un0).rules) us.length ≤ 1048576) :
    Calls Try.prog 15 #[.slice a1 es.length c1, .slice a2 ss.length c2, .slice a3 us.length c3] w (DpPost es ss us w) := by
  obtain ⟨i0, hi, hz0, hz1, hz2⟩ := info_parts info51
  have hk83 : ∀ (z : Int) (w : World), _ := fun z w => run_makeMap_hint (P := Try.prog) Try.underlying83 z w
  go_enter Try.func15, Try.ntmps15
  go_upto_block 0 with fail
  go_cut [7, 8] from 19 to 38 (fun v _ wx => RowP w v wx (evPairs es))
  case first =>
    go_wp2
    go_loopw [7, 8] (fun v i wr => ∃ k : Nat, k ≤ es.length ∧ i = .int .i64 k ∧ RowP w v wr (evPairs (es.take k))) (fun _ i _ => es.length - (intOf i).toNat)
    case atStart => exact ⟨0, Nat.zero_le _, rfl, World.ownsRow_nil _ _ _ _, Below.refl _ _⟩
    case round =>
      obtain ⟨k, hk, rfl, hrow, hbr⟩ := hrel
      by_cases hlt : k < es.length
      · obtain ⟨b, off, e, hbl, ⟨g0, g1⟩, hcs⟩ := (he.keep hbr) k hlt
        cases e
        have htk := take_snoc ev0 hlt
        generalize hE : es.getD k ev0 = M at *
        obtain ⟨mid, mad⟩ := M
        have q0 := hcs 0 _ rfl
        have q1 := hcs 1 _ rfl
        simp only [Nat.add_zero] at q0
        simp only at q0 q1
        have hlen : (k : Int) < es.length := by omega
        have hk0 : (0 : Int) ≤ k := by omega
        have hpl : (evPairs (es.take k)).length = k := by simp [evPairs]; omega
        have hbl' : b < wr.heap.size := Nat.lt_of_lt_of_le hbl hbr.size
        have hwl : w.heap.size ≤ wr.heap.size := hbr.size
        have hown1 : (wr.drew.alloc (.cells #[.string mid, .string mad] 51)).ownsRow w.heap.size 51 2 u7 (evPairs (es.take k)).length (flat (evPairs (es.take k))) := World.ownsRow.alloc hrow _
        clear hcs hE
        go_wp2
        go_region_held3 (fun w' => w'.cell? ⟨b, off + k * 2, none⟩ = some (.string mid) ∧ w'.cell? ⟨b, off + k * 2 + 1, none⟩ = some (.string mad)) (go_keep)
          (first | (refine step_append_lies _ rfl _ _ 48 rfl w.heap.size 51 i0 _ 2 32 Try.underlying48 hi hz0 hz1 hz2 rfl (by decide) _ _ _ rfl hown1 _ 1 1 [.string mid, .string mad] rfl rfl (cell2_new _ _ _ _) (pair_one _ _) (by omega) (by rw [hpl]; unfold maxLen; omega) (by rw [hpl]; omega) (by show w.heap.size ≤ (wr.alloc _).heap.size; rw [World.size_alloc]; omega) _ rfl ?_; intro g cap w1 hown hgrow hat hlt1; have kk : ∀ j, w1.cell? ⟨b, j, none⟩ = wr.cell? ⟨b, j, none⟩ := fun j => World.cell?_of_block (w := wr) ((hgrow.block b (by show b < (wr.alloc _).heap.size; rw [World.size_alloc]; omega) (fun e => by have := (hrow.lt b e.symm).1; omega)).trans (Below.heap_alloc wr _ b hbl')); have t0 := (kk _).trans q0; have t1 := (kk _).trans q1))
        have hb1 : Below w.heap.size w w1 := ((hbr.drew).alloc (by show w.heap.size ≤ wr.heap.size; omega) _).grown hgrow (by show w.heap.size ≤ (wr.alloc _).heap.size; rw [World.size_alloc]; omega) (fun q e => (hrow.lt q e).1)
        have R1 : RowP w (.slice (some ⟨g, 0, none⟩) ((evPairs (es.take k)).length + 1) cap) w1 (evPairs (es.take (k + 1))) := by
          have e : evPairs (es.take (k + 1)) = evPairs (es.take k) ++ [(mid, mad)] := by rw [htk]; simp [evPairs]
          rw [e]
          refine ⟨?_, hb1⟩
          rw [flat_snoc, List.length_append]
          exact hown
        rw [hpl] at R1
        clear hown hgrow hat hlt1 kk t0 t1 hown1 hrow hbr hb1 q0 q1
        go_wp2
        go_roundw
        case rel => exact ⟨k + 1, by omega, by go_num, R1⟩
        case measure => simp [intOf]; omega
      · obtain rfl : k = es.length := by omega
        rw [List.take_length] at hrow
        go_wp2
        go_meet
        case rel => exact ⟨hrow, hbr⟩
  case rest =>
    have h1 : RowP w u7 wc (evPairs es) := hcut
    clear hcut
    obtain ⟨wA, hwA⟩ : ∃ wA, wA = wc := ⟨_, rfl⟩
    subst hwA
    have hwl0 := h1.2.size
    have hm0 := World.ownsMap_made wA Try.prog 9 (plainElem (H := Unit) Try.prog 3)
    have h1' : RowP w u7 (wA.alloc (.map #[] 0)) (evPairs es) := ⟨h1.1.alloc _, h1.2.alloc hwl0 _⟩
    clear h1
    go_upto_block 2 with fail
    go_cut [10] from 42 to 54 (fun _ wx => SegP w u7 wx (evPairs es) wA.heap.size ss.length (fun i => (ss.getD i sc0).key.data.toList))
    case first =>
      go_wp2
      go_loopw [10] (fun i wr => ∃ k : Nat, k ≤ ss.length ∧ i = .int .i64 k ∧ RowP w u7 wr (evPairs es) ∧ wr.ownsMap Try.prog 9 (plainElem (H := Unit) Try.prog 3) wA.heap.size k (intD (fun i => (ss.getD i sc0).key.data.toList) k)) (fun i _ => ss.length - (intOf i).toNat)
      case atStart => exact ⟨0, Nat.zero_le _, rfl, h1', hm0⟩
      case round =>
        obtain ⟨k, hk, rfl, ⟨hrow, hbr⟩, hown⟩ := hrel
        by_cases hlt : k < ss.length
        · obtain ⟨b, off, au, cu, ar, cr, e, hbl, ⟨g0, g1, g2, g3, g4⟩, hU, hR, _, har, hcs⟩ := (hs.keep hbr) k hlt
          cases e
          have q0 := hcs 0 _ rfl
          simp only [Nat.add_zero] at q0
          obtain ⟨w1, hrun, hown1, hgr1⟩ := hown.update (key := .string (ss.getD k sc0).key) (kl := .string (ss.getD k sc0).key.data.toList) keyed9 Try.underlying83 (by unfold maxLen; omega) (keyOf9 g0) (plainElem_int Try.underlying3 (WalkArith.wf_i64 (n := (k : Int)) (by omega)))
          have hne := rowP_ne hown hrow
          have hr1 : RowP w u7 w1 (evPairs es) := ⟨hrow.kept hgr1 hne, hbr.grown hgr1 hbr.size (fun q e => by cases e; exact hwl0)⟩
          have hown2 : w1.ownsMap Try.prog 9 (plainElem (H := Unit) Try.prog 3) wA.heap.size (k + 1) (intD (fun i => (ss.getD i sc0).key.data.toList) (k + 1)) := hown1
          generalize (ss.getD k sc0).key = key at *
          clear hcs hrow hbr hown hown1 hgr1 hne
          go_wp2
          go_roundw
          case rel => exact ⟨k + 1, by omega, by go_num, hr1, hown2⟩
          case measure => simp [intOf]; omega
        · obtain rfl : k = ss.length := by omega
          go_wp2
          go_meet
          case rel => exact ⟨⟨hrow, hbr⟩, hown⟩
    case rest =>
      obtain ⟨h2, hmap⟩ : SegP w u7 wc (evPairs es) wA.heap.size ss.length (fun i => (ss.getD i sc0).key.data.toList) := hcut
      clear h1' hm0
      go_upto_block 4 with fail
      go_cut [7, 11, 12, 13] from 55 to 94 (fun v _ _ _ wx => RowP w v wx ((evPairs es) ++ accP (fun i => (ss.getD i sc0).key.data.toList) (fun i => (ss.getD i sc0).rules) ss.length ss.length))
      case first =>
        go_wp2
        go_loopw [7, 11, 12, 13] (fun v i _ _ wr => ∃ k : Nat, k ≤ ss.length ∧ i = .int .i64 k ∧ RowP w v wr ((evPairs es) ++ accP (fun i => (ss.getD i sc0).key.data.toList) (fun i => (ss.getD i sc0).rules) ss.length k) ∧ wr.ownsMap Try.prog 9 (plainElem (H := Unit) Try.prog 3) wA.heap.size ss.length (intD (fun i => (ss.getD i sc0).key.data.toList) ss.length)) (fun _ i _ _ _ => ss.length - (intOf i).toNat)
        case atStart => exact ⟨0, Nat.zero_le _, rfl, by rw [accP, List.append_nil]; exact h2, hmap⟩
        case round =>
          obtain ⟨k, hk, rfl, hRow, hown⟩ := hrel
          have hbr := hRow.2
          by_cases hlt : k < ss.length
          · obtain ⟨b, off, au, cu, ar, cr, e, hbl, ⟨g0, g1, g2, g3, g4⟩, hU, hR, _, har, hcs⟩ := (hs.keep hbr) k hlt
            cases e
            have q0 := hcs 0 _ rfl
            have qr := hcs 4 _ rfl
            simp only [Nat.add_zero] at q0
            obtain ⟨c, hrunL, hat, hwc⟩ := hown.lookup_int (key := .string (ss.getD k sc0).key) (kl := .string (ss.getD k sc0).key.data.toList) keyed9 Try.underlying83 Try.underlying3 (Try.zeroValue3 _) (keyOf9 g0)
            rw [intD_at] at hat
            obtain ⟨jl, hjl⟩ := LI_some (K := (fun i => (ss.getD i sc0).key.data.toList)) hlt
            have hjl' : LI (fun i => (ss.getD i sc0).key.data.toList) ss.length (ss.getD k sc0).key.data.toList = some jl := hjl
            rw [hjl'] at hat
            obtain rfl : c = (jl : Int) := by simpa using hat.symm
            have HA : Hid (accP (fun i => (ss.getD i sc0).key.data.toList) (fun i => (ss.getD i sc0).rules) ss.length (k + 1) = accP (fun i => (ss.getD i sc0).key.data.toList) (fun i => (ss.getD i sc0).rules) ss.length k ++ (if LI (fun i => (ss.getD i sc0).key.data.toList) ss.length (ss.getD k sc0).key.data.toList = some k then pairs (ss.getD k sc0).rules else [])) := rfl
            have HB : Hid (rsum (fun i => (ss.getD i sc0).rules) (k + 1) = rsum (fun i => (ss.getD i sc0).rules) k + (ss.getD k sc0).rules.length) := rfl
            rw [hjl'] at HA
            generalize ss.getD k sc0 = R at *
            obtain ⟨key, id, par, un, rl⟩ := R
            simp only at q0 qr hR g4 HA HB hrunL
            clear hcs hat hjl hjl' hwc
            by_cases hlast : jl = k
            · subst hlast
              have HA' : accP (fun i => (ss.getD i sc0).key.data.toList) (fun i => (ss.getD i sc0).rules) ss.length (jl + 1) = accP (fun i => (ss.getD i sc0).key.data.toList) (fun i => (ss.getD i sc0).rules) ss.length jl ++ pairs rl := by have := HA.out; rw [if_pos rfl] at this; exact this
              have hsm := rsum_mono (fun i => (ss.getD i sc0).rules) (show jl + 1 ≤ ss.length by omega)
              have hrb := HB.out
              have hal := accP_le (fun i => (ss.getD i sc0).key.data.toList) (fun i => (ss.getD i sc0).rules) ss.length jl
              have hevl : (evPairs es).length = es.length := by simp [evPairs]
              have hX1 := rsum_mono (fun i => (us.getD i un0).rules) (Nat.zero_le us.length)
              obtain ⟨wo, hwo⟩ : ∃ wo, wo = wr := ⟨_, rfl⟩
              subst hwo
              clear HA HB
              have HH : Hid (accP (fun i => (ss.getD i sc0).key.data.toList) (fun i => (ss.getD i sc0).rules) ss.length (jl + 1) = accP (fun i => (ss.getD i sc0).key.data.toList) (fun i => (ss.getD i sc0).rules) ss.length jl ++ pairs rl) := HA'
              have hlens : ((evPairs es) ++ accP (fun i => (ss.getD i sc0).key.data.toList) (fun i => (ss.getD i sc0).rules) ss.length jl).length + rl.length ≤ 1048576 := by rw [List.length_append]; omega
              generalize hPP : (evPairs es) ++ accP (fun i => (ss.getD i sc0).key.data.toList) (fun i => (ss.getD i sc0).rules) ss.length jl = PP at *
              have HPP : Hid ((evPairs es) ++ accP (fun i => (ss.getD i sc0).key.data.toList) (fun i => (ss.getD i sc0).rules) ss.length jl = PP) := hPP
              clear hPP HA' hsm hrb hal
              go_wp2
              go_loopw [7, 13] (fun v j wr => ∃ j' : Nat, j' ≤ rl.length ∧ j = .int .i64 j' ∧ RowP w v wr (PP ++ pairs (rl.take j')) ∧ wr.ownsMap Try.prog 9 (plainElem (H := Unit) Try.prog 3) wA.heap.size ss.length (intD (fun i => (ss.getD i sc0).key.data.toList) ss.length)) (fun _ j _ => rl.length - (intOf j).toNat)
              case atStart => exact ⟨0, Nat.zero_le _, rfl, by simpa [pairs] using hRow, hown⟩
              case round =>
                obtain ⟨j, hj, rfl, ⟨hrow, hbr2⟩, hown2⟩ := hrel
                by_cases hlj : j < rl.length
                · obtain ⟨b', off', e', hbl2, ⟨y0, y1, y2⟩, hcr⟩ := (RlsAt.move hR hbr hbr2) j hlj
                  cases e'
                  have htk := take_snoc rl0 hlj
                  generalize hE : rl.getD j rl0 = M at *
                  obtain ⟨mid, mad, mrq, map⟩ := M
                  have x0 := hcr 0 _ rfl
                  have x1 := hcr 1 _ rfl
                  simp only [Nat.add_zero] at x0
                  simp only at x0 x1
                  have hlen : (j : Int) < rl.length := by omega
                  have hj0 : (0 : Int) ≤ j := by omega
                  obtain ⟨N0, hN0⟩ : ∃ N0, N0 = (PP ++ pairs (rl.take j)).length := ⟨_, rfl⟩
                  have hN1 : N0 + 1 ≤ 1048576 := by rw [hN0, List.length_append]; have : (pairs (rl.take j)).length ≤ j := by { simp [pairs]; omega }; omega
                  have hbl' : b' < wr.heap.size := Nat.lt_of_lt_of_le hbl2 hbr2.size
                  have hwl : w.heap.size ≤ wr.heap.size := hbr2.size
                  rw [← hN0] at hrow
                  have hown1 : (wr.drew.alloc (.cells #[.string mid, .string mad] 51)).ownsRow w.heap.size 51 2 u7 N0 (flat (PP ++ pairs (rl.take j))) := World.ownsRow.alloc hrow _
                  have hm1 := (hown2.drew).alloc (.cells #[.string mid, .string mad] 51)
                  have hne := rowP_ne hown2 hrow
                  have HN : Hid (N0 = (PP ++ pairs (rl.take j)).length) := hN0
                  clear hcr hE hN0
                  go_wp2
                  go_region_held3 (fun w' => w'.cell? ⟨b', off' + j * 4, none⟩ = some (.string mid) ∧ w'.cell? ⟨b', off' + j * 4 + 1, none⟩ = some (.string mad)) (go_keep)
                    (first | (refine step_append_lies _ rfl _ _ 48 rfl w.heap.size 51 i0 _ 2 32 Try.underlying48 hi hz0 hz1 hz2 rfl (by decide) _ _ _ rfl hown1 _ 1 1 [.string mid, .string mad] rfl rfl (cell2_new _ _ _ _) (pair_one _ _) (by omega) (by unfold maxLen; omega) (by omega) (by show w.heap.size ≤ (wr.alloc _).heap.size; rw [World.size_alloc]; omega) _ rfl ?_; intro g cap w1 hownR hgrow hatg hlt1; have kk : ∀ q, w1.cell? ⟨b', q, none⟩ = wr.cell? ⟨b', q, none⟩ := fun q => World.cell?_of_block (w := wr) ((hgrow.block b' (by show b' < (wr.alloc _).heap.size; rw [World.size_alloc]; omega) (fun e => by have := (hrow.lt b' e.symm).1; omega)).trans (Below.heap_alloc wr _ b' hbl')); have t0 := (kk _).trans x0; have t1 := (kk _).trans x1))
                  have hb1 : Below w.heap.size w w1 := ((hbr2.drew).alloc hwl _).grown hgrow (by show w.heap.size ≤ (wr.alloc _).heap.size; rw [World.size_alloc]; omega) (fun q e => (hrow.lt q e).1)
                  have R1 : RowP w (.slice (some ⟨g, 0, none⟩) (N0 + 1) cap) w1 (PP ++ pairs (rl.take (j + 1))) := by
                    have e : PP ++ pairs (rl.take (j + 1)) = (PP ++ pairs (rl.take j)) ++ [(mid, mad)] := by rw [htk]; simp [pairs]
                    rw [e]
                    refine ⟨?_, hb1⟩
                    rw [flat_snoc, List.length_append, ← HN.out]
                    exact hownR
                  have R2 := hm1.kept (row := u7.ownBlock) hgrow (fun e => by rcases hne with h | h; (· rw [h] at e; cases e); exact h e.symm)
                  clear hownR hgrow hatg hlt1 kk t0 t1 hown1 hrow hbr2 hb1 x0 x1 hm1 hne
                  go_wp2
                  go_roundw
                  case rel => exact ⟨j + 1, by omega, by go_num, R1, R2⟩
                  case measure => simp [intOf]; omega
                · obtain rfl : j = rl.length := by omega
                  rw [List.take_length] at hrow
                  have R1 : RowP w u7 wr ((evPairs es) ++ accP (fun i => (ss.getD i sc0).key.data.toList) (fun i => (ss.getD i sc0).rules) ss.length (jl + 1)) := by
                    rw [HH.out, ← List.append_assoc, HPP.out]
                    exact ⟨hrow, hbr2⟩
                  clear hrow
                  go_wp2
                  go_roundw
                  case rel => exact ⟨jl + 1, by omega, by go_num, R1, hown2⟩
                  case measure => simp [intOf]; omega
            · have HA' : accP (fun i => (ss.getD i sc0).key.data.toList) (fun i => (ss.getD i sc0).rules) ss.length (k + 1) = accP (fun i => (ss.getD i sc0).key.data.toList) (fun i => (ss.getD i sc0).rules) ss.length k := by have := HA.out; rw [if_neg (fun e => hlast (Option.some.inj e)), List.append_nil] at this; exact this
              have hne : ¬ (jl : Int) = (k : Int) := by omega
              rw [← HA'] at hRow
              clear HA HA' HB
              go_wp2
              go_roundw
              case rel => exact ⟨k + 1, by omega, by go_num, hRow, hown⟩
              case measure => simp [intOf]; omega
          · obtain rfl : k = ss.length := by omega
            go_wp2
            go_meet
            case rel => exact hRow
      case rest =>
        have h1 : RowP w u7 wc (evPairs es ++ accP (fun i => (ss.getD i sc0).key.data.toList) (fun i => (ss.getD i sc0).rules) ss.length ss.length) := hcut
        clear hcut
        obtain ⟨wB, hwB⟩ : ∃ wB, wB = wc := ⟨_, rfl⟩
        subst hwB
        have hwl0 := h1.2.size
        have hm0 := World.ownsMap_made wB Try.prog 9 (plainElem (H := Unit) Try.prog 3)
        have h1' : RowP w u7 (wB.alloc (.map #[] 0)) (evPairs es ++ accP (fun i => (ss.getD i sc0).key.data.toList) (fun i => (ss.getD i sc0).rules) ss.length ss.length) := ⟨h1.1.alloc _, h1.2.alloc hwl0 _⟩
        clear h1
        go_upto_block 8 with fail
        go_cut [15] from 98 to 110 (fun _ wx => SegP w u7 wx (evPairs es ++ accP (fun i => (ss.getD i sc0).key.data.toList) (fun i => (ss.getD i sc0).rules) ss.length ss.length) wB.heap.size us.length (fun i => (us.getD i un0).key.data.toList))
        case first =>
          go_wp2
          go_loopw [15] (fun i wr => ∃ k : Nat, k ≤ us.length ∧ i = .int .i64 k ∧ RowP w u7 wr (evPairs es ++ accP (fun i => (ss.getD i sc0).key.data.toList) (fun i => (ss.getD i sc0).rules) ss.length ss.length) ∧ wr.ownsMap Try.prog 9 (plainElem (H := Unit) Try.prog 3) wB.heap.size k (intD (fun i => (us.getD i un0).key.data.toList) k)) (fun i _ => us.length - (intOf i).toNat)
          case atStart => exact ⟨0, Nat.zero_le _, rfl, h1', hm0⟩
          case round =>
            obtain ⟨k, hk, rfl, ⟨hrow, hbr⟩, hown⟩ := hrel
            by_cases hlt : k < us.length
            · obtain ⟨b, off, ar, cr, e, hbl, ⟨g0, g1, g4⟩, hR, har, hcs⟩ := (hu.keep hbr) k hlt
              cases e
              have q0 := hcs 0 _ rfl
              simp only [Nat.add_zero] at q0
              obtain ⟨w1, hrun, hown1, hgr1⟩ := hown.update (key := .string (us.getD k un0).key) (kl := .string (us.getD k un0).key.data.toList) keyed9 Try.underlying83 (by unfold maxLen; omega) (keyOf9 g0) (plainElem_int Try.underlying3 (WalkArith.wf_i64 (n := (k : Int)) (by omega)))
              have hne := rowP_ne hown hrow
              have hr1 : RowP w u7 w1 (evPairs es ++ accP (fun i => (ss.getD i sc0).key.data.toList) (fun i => (ss.getD i sc0).rules) ss.length ss.length) := ⟨hrow.kept hgr1 hne, hbr.grown hgr1 hbr.size (fun q e => by cases e; exact hwl0)⟩
              have hown2 : w1.ownsMap Try.prog 9 (plainElem (H := Unit) Try.prog 3) wB.heap.size (k + 1) (intD (fun i => (us.getD i un0).key.data.toList) (k + 1)) := hown1
              generalize (us.getD k un0).key = key at *
              clear hcs hrow hbr hown hown1 hgr1 hne
              go_wp2
              go_roundw
              case rel => exact ⟨k + 1, by omega, by go_num, hr1, hown2⟩
              case measure => simp [intOf]; omega
            · obtain rfl : k = us.length := by omega
              go_wp2
              go_meet
              case rel => exact ⟨⟨hrow, hbr⟩, hown⟩
        case rest =>
          obtain ⟨h2, hmap⟩ : SegP w u7 wc (evPairs es ++ accP (fun i => (ss.getD i sc0).key.data.toList) (fun i => (ss.getD i sc0).rules) ss.length ss.length) wB.heap.size us.length (fun i => (us.getD i un0).key.data.toList) := hcut
          clear h1' hm0
          go_upto_block 10 with fail
          go_cut [7, 16, 17, 18] from 111 to 150 (fun v _ _ _ wx => RowP w v wx ((evPairs es ++ accP (fun i => (ss.getD i sc0).key.data.toList) (fun i => (ss.getD i sc0).rules) ss.length ss.length) ++ accP (fun i => (us.getD i un0).key.data.toList) (fun i => (us.getD i un0).rules) us.length us.length))
          case first =>
            go_wp2
            go_loopw [7, 16, 17, 18] (fun v i _ _ wr => ∃ k : Nat, k ≤ us.length ∧ i = .int .i64 k ∧ RowP w v wr ((evPairs es ++ accP (fun i => (ss.getD i sc0).key.data.toList) (fun i => (ss.getD i sc0).rules) ss.length ss.length) ++ accP (fun i => (us.getD i un0).key.data.toList) (fun i => (us.getD i un0).rules) us.length k) ∧ wr.ownsMap Try.prog 9 (plainElem (H := Unit) Try.prog 3) wB.heap.size us.length (intD (fun i => (us.getD i un0).key.data.toList) us.length)) (fun _ i _ _ _ => us.length - (intOf i).toNat)
            case atStart => exact ⟨0, Nat.zero_le _, rfl, by rw [accP, List.append_nil]; exact h2, hmap⟩
            case round =>
              obtain ⟨k, hk, rfl, hRow, hown⟩ := hrel
              have hbr := hRow.2
              by_cases hlt : k < us.length
              · obtain ⟨b, off, ar, cr, e, hbl, ⟨g0, g1, g4⟩, hR, har, hcs⟩ := (hu.keep hbr) k hlt
                cases e
                have q0 := hcs 0 _ rfl
                have qr := hcs 2 _ rfl
                simp only [Nat.add_zero] at q0
                obtain ⟨c, hrunL, hat, hwc⟩ := hown.lookup_int (key := .string (us.getD k un0).key) (kl := .string (us.getD k un0).key.data.toList) keyed9 Try.underlying83 Try.underlying3 (Try.zeroValue3 _) (keyOf9 g0)
                rw [intD_at] at hat
                obtain ⟨jl, hjl⟩ := LI_some (K := (fun i => (us.getD i un0).key.data.toList)) hlt
                have hjl' : LI (fun i => (us.getD i un0).key.data.toList) us.length (us.getD k un0).key.data.toList = some jl := hjl
                rw [hjl'] at hat
                obtain rfl : c = (jl : Int) := by simpa using hat.symm
                have HA : Hid (accP (fun i => (us.getD i un0).key.data.toList) (fun i => (us.getD i un0).rules) us.length (k + 1) = accP (fun i => (us.getD i un0).key.data.toList) (fun i => (us.getD i un0).rules) us.length k ++ (if LI (fun i => (us.getD i un0).key.data.toList) us.length (us.getD k un0).key.data.toList = some k then pairs (us.getD k un0).rules else [])) := rfl
                have HB : Hid (rsum (fun i => (us.getD i un0).rules) (k + 1) = rsum (fun i => (us.getD i un0).rules) k + (us.getD k un0).rules.length) := rfl
                rw [hjl'] at HA
                generalize us.getD k un0 = R at *
                obtain ⟨key, id, rl⟩ := R
                simp only at q0 qr hR g4 HA HB hrunL
                clear hcs hat hjl hjl' hwc
                by_cases hlast : jl = k
                · subst hlast
                  have HA' : accP (fun i => (us.getD i un0).key.data.toList) (fun i => (us.getD i un0).rules) us.length (jl + 1) = accP (fun i => (us.getD i un0).key.data.toList) (fun i => (us.getD i un0).rules) us.length jl ++ pairs rl := by have := HA.out; rw [if_pos rfl] at this; exact this
                  have hsm := rsum_mono (fun i => (us.getD i un0).rules) (show jl + 1 ≤ us.length by omega)
                  have hrb := HB.out
                  have hal := accP_le (fun i => (us.getD i un0).key.data.toList) (fun i => (us.getD i un0).rules) us.length jl
                  have hevl : (evPairs es).length = es.length := by simp [evPairs]
                  have hX1 := accP_le (fun i => (ss.getD i sc0).key.data.toList) (fun i => (ss.getD i sc0).rules) ss.length ss.length
                  obtain ⟨wo, hwo⟩ : ∃ wo, wo = wr := ⟨_, rfl⟩
                  subst hwo
                  clear HA HB
                  have HH : Hid (accP (fun i => (us.getD i un0).key.data.toList) (fun i => (us.getD i un0).rules) us.length (jl + 1) = accP (fun i => (us.getD i un0).key.data.toList) (fun i => (us.getD i un0).rules) us.length jl ++ pairs rl) := HA'
                  have hlens : ((evPairs es ++ accP (fun i => (ss.getD i sc0).key.data.toList) (fun i => (ss.getD i sc0).rules) ss.length ss.length) ++ accP (fun i => (us.getD i un0).key.data.toList) (fun i => (us.getD i un0).rules) us.length jl).length + rl.length ≤ 1048576 := by rw [List.length_append]; rw [List.length_append]; omega
                  generalize hPP : (evPairs es ++ accP (fun i => (ss.getD i sc0).key.data.toList) (fun i => (ss.getD i sc0).rules) ss.length ss.length) ++ accP (fun i => (us.getD i un0).key.data.toList) (fun i => (us.getD i un0).rules) us.length jl = PP at *
                  have HPP : Hid ((evPairs es ++ accP (fun i => (ss.getD i sc0).key.data.toList) (fun i => (ss.getD i sc0).rules) ss.length ss.length) ++ accP (fun i => (us.getD i un0).key.data.toList) (fun i => (us.getD i un0).rules) us.length jl = PP) := hPP
                  clear hPP HA' hsm hrb hal
                  go_wp2
                  go_loopw [7, 18] (fun v j wr => ∃ j' : Nat, j' ≤ rl.length ∧ j = .int .i64 j' ∧ RowP w v wr (PP ++ pairs (rl.take j')) ∧ wr.ownsMap Try.prog 9 (plainElem (H := Unit) Try.prog 3) wB.heap.size us.length (intD (fun i => (us.getD i un0).key.data.toList) us.length)) (fun _ j _ => rl.length - (intOf j).toNat)
                  case atStart => exact ⟨0, Nat.zero_le _, rfl, by simpa [pairs] using hRow, hown⟩
                  case round =>
                    obtain ⟨j, hj, rfl, ⟨hrow, hbr2⟩, hown2⟩ := hrel
                    by_cases hlj : j < rl.length
                    · obtain ⟨b', off', e', hbl2, ⟨y0, y1, y2⟩, hcr⟩ := (RlsAt.move hR hbr hbr2) j hlj
                      cases e'
                      have htk := take_snoc rl0 hlj
                      generalize hE : rl.getD j rl0 = M at *
                      obtain ⟨mid, mad, mrq, map⟩ := M
                      have x0 := hcr 0 _ rfl
                      have x1 := hcr 1 _ rfl
                      simp only [Nat.add_zero] at x0
                      simp only at x0 x1
                      have hlen : (j : Int) < rl.length := by omega
                      have hj0 : (0 : Int) ≤ j := by omega
                      obtain ⟨N0, hN0⟩ : ∃ N0, N0 = (PP ++ pairs (rl.take j)).length := ⟨_, rfl⟩
                      have hN1 : N0 + 1 ≤ 1048576 := by rw [hN0, List.length_append]; have : (pairs (rl.take j)).length ≤ j := by { simp [pairs]; omega }; omega
                      have hbl' : b' < wr.heap.size := Nat.lt_of_lt_of_le hbl2 hbr2.size
                      have hwl : w.heap.size ≤ wr.heap.size := hbr2.size
                      rw [← hN0] at hrow
                      have hown1 : (wr.drew.alloc (.cells #[.string mid, .string mad] 51)).ownsRow w.heap.size 51 2 u7 N0 (flat (PP ++ pairs (rl.take j))) := World.ownsRow.alloc hrow _
                      have hm1 := (hown2.drew).alloc (.cells #[.string mid, .string mad] 51)
                      have hne := rowP_ne hown2 hrow
                      have HN : Hid (N0 = (PP ++ pairs (rl.take j)).length) := hN0
                      clear hcr hE hN0
                      go_wp2
                      go_region_held3 (fun w' => w'.cell? ⟨b', off' + j * 4, none⟩ = some (.string mid) ∧ w'.cell? ⟨b', off' + j * 4 + 1, none⟩ = some (.string mad)) (go_keep)
                        (first | (refine step_append_lies _ rfl _ _ 48 rfl w.heap.size 51 i0 _ 2 32 Try.underlying48 hi hz0 hz1 hz2 rfl (by decide) _ _ _ rfl hown1 _ 1 1 [.string mid, .string mad] rfl rfl (cell2_new _ _ _ _) (pair_one _ _) (by omega) (by unfold maxLen; omega) (by omega) (by show w.heap.size ≤ (wr.alloc _).heap.size; rw [World.size_alloc]; omega) _ rfl ?_; intro g cap w1 hownR hgrow hatg hlt1; have kk : ∀ q, w1.cell? ⟨b', q, none⟩ = wr.cell? ⟨b', q, none⟩ := fun q => World.cell?_of_block (w := wr) ((hgrow.block b' (by show b' < (wr.alloc _).heap.size; rw [World.size_alloc]; omega) (fun e => by have := (hrow.lt b' e.symm).1; omega)).trans (Below.heap_alloc wr _ b' hbl')); have t0 := (kk _).trans x0; have t1 := (kk _).trans x1))
                      have hb1 : Below w.heap.size w w1 := ((hbr2.drew).alloc hwl _).grown hgrow (by show w.heap.size ≤ (wr.alloc _).heap.size; rw [World.size_alloc]; omega) (fun q e => (hrow.lt q e).1)
                      have R1 : RowP w (.slice (some ⟨g, 0, none⟩) (N0 + 1) cap) w1 (PP ++ pairs (rl.take (j + 1))) := by
                        have e : PP ++ pairs (rl.take (j + 1)) = (PP ++ pairs (rl.take j)) ++ [(mid, mad)] := by rw [htk]; simp [pairs]
                        rw [e]
                        refine ⟨?_, hb1⟩
                        rw [flat_snoc, List.length_append, ← HN.out]
                        exact hownR
                      have R2 := hm1.kept (row := u7.ownBlock) hgrow (fun e => by rcases hne with h | h; (· rw [h] at e; cases e); exact h e.symm)
                      clear hownR hgrow hatg hlt1 kk t0 t1 hown1 hrow hbr2 hb1 x0 x1 hm1 hne
                      go_wp2
                      go_roundw
                      case rel => exact ⟨j + 1, by omega, by go_num, R1, R2⟩
                      case measure => simp [intOf]; omega
                    · obtain rfl : j = rl.length := by omega
                      rw [List.take_length] at hrow
                      have R1 : RowP w u7 wr ((evPairs es ++ accP (fun i => (ss.getD i sc0).key.data.toList) (fun i => (ss.getD i sc0).rules) ss.length ss.length) ++ accP (fun i => (us.getD i un0).key.data.toList) (fun i => (us.getD i un0).rules) us.length (jl + 1)) := by
                        rw [HH.out, ← List.append_assoc, HPP.out]
                        exact ⟨hrow, hbr2⟩
                      clear hrow
                      go_wp2
                      go_roundw
                      case rel => exact ⟨jl + 1, by omega, by go_num, R1, hown2⟩
                      case measure => simp [intOf]; omega
                · have HA' : accP (fun i => (us.getD i un0).key.data.toList) (fun i => (us.getD i un0).rules) us.length (k + 1) = accP (fun i => (us.getD i un0).key.data.toList) (fun i => (us.getD i un0).rules) us.length k := by have := HA.out; rw [if_neg (fun e => hlast (Option.some.inj e)), List.append_nil] at this; exact this
                  have hne : ¬ (jl : Int) = (k : Int) := by omega
                  rw [← HA'] at hRow
                  clear HA HA' HB
                  go_wp2
                  go_roundw
                  case rel => exact ⟨k + 1, by omega, by go_num, hRow, hown⟩
                  case measure => simp [intOf]; omega
              · obtain rfl : k = us.length := by omega
                go_wp2
                go_meet
                case rel => exact hRow
          case rest =>
            obtain ⟨hrow, hb⟩ : RowP w u7 wc (evPairs es ++ accP (fun i => (ss.getD i sc0).key.data.toList) (fun i => (ss.getD i sc0).rules) ss.length ss.length ++ accP (fun i => (us.getD i un0).key.data.toList) (fun i => (us.getD i un0).rules) us.length us.length) := hcut
            have hl1 := accP_le (fun i => (ss.getD i sc0).key.data.toList) (fun i => (ss.getD i sc0).rules) ss.length ss.length
            have hl2 := accP_le (fun i => (us.getD i un0).key.data.toList) (fun i => (us.getD i un0).rules) us.length us.length
            have hev : (evPairs es).length = es.length := by simp [evPairs]
            have hle : (evPairs es ++ accP (fun i => (ss.getD i sc0).key.data.toList) (fun i => (ss.getD i sc0).rules) ss.length ss.length ++ accP (fun i => (us.getD i un0).key.data.toList) (fun i => (us.getD i un0).rules) us.length us.length).length ≤ 1048576 := by rw [List.length_append, List.length_append]; omega
            go_wp2
            go_ret
            generalize hpl : evPairs es ++ accP (fun i => (ss.getD i sc0).key.data.toList) (fun i => (ss.getD i sc0).rules) ss.length ss.length ++ accP (fun i => (us.getD i un0).key.data.toList) (fun i => (us.getD i un0).rules) us.length us.length = pl at *
            rcases hrow.2 with ⟨rfl, h0⟩ | ⟨g, cap, cur, rfl, _⟩
            · exact ⟨none, 0, pl, by rw [h0]; rfl, ⟨by rw [h0] at hrow ⊢; exact hrow, hb⟩, hle, hpl.symm⟩
            · exact ⟨_, cap, pl, rfl, ⟨hrow, hb⟩, hle, hpl.symm⟩
end Go.Proofs.Qxb6616144a
