import Derived.Test.Qxb6616236aFold
import Derived.Test.Qxb6616236aFoldLaw
import Derived.Deep.CutRange
import Derived.Deep.RegionHeld3
import Derived.Deep.QuietTactic
import Derived.BigQuiet
namespace Go.Proofs.Qxb6616236a
open Go.RowKit

theorem three0 {w : World} {g : Nat} {a b c : Value} {t : TypeId} (h : w.heap[g]? = some (.cells #[a, b, c] t (0, 0))) : w.cell? ⟨g, 0, none⟩ = some a := by simp [World.cell?, h]
theorem three1 {w : World} {g : Nat} {a b c : Value} {t : TypeId} (h : w.heap[g]? = some (.cells #[a, b, c] t (0, 0))) : w.cell? ⟨g, 1, none⟩ = some b := by simp [World.cell?, h]
theorem three2 {w : World} {g : Nat} {a b c : Value} {t : TypeId} (h : w.heap[g]? = some (.cells #[a, b, c] t (0, 0))) : w.cell? ⟨g, 2, none⟩ = some c := by simp [World.cell?, h]
theorem cells_free {w : World} {g : Nat} {c : Array Value} {t : TypeId} (h : w.heap[g]? = some (.cells c t (0, 0))) (j : Nat) : w.frozen? ⟨g, j, none⟩ = false := by simp [World.frozen?, h]
theorem cells_setCell {w : World} {g : Nat} {c : Array Value} {t : TypeId} (h : w.heap[g]? = some (.cells c t (0, 0))) (j : Nat) (u : Value) : (w.setCell ⟨g, j, none⟩ u).heap[g]? = some (.cells (c.setIfInBounds j u) t (0, 0)) := by
  have hlt := lt_of_block h
  have h' : w.heap[g] = .cells c t (0, 0) := by simpa [Array.getElem?_eq_getElem hlt] using h
  show (w.heap.modify g _)[g]? = _
  rw [Array.getElem?_eq_getElem (by simpa using hlt), Array.getElem_modify_self, h']
  rfl
/-- The box that was laid ahead of the call is there behind it. -/
theorem mbox {w w2 : World} {cs : Array Value} (h : Below ((w.alloc (.cells cs 25)).drew).heap.size ((w.alloc (.cells cs 25)).drew) w2) : w2.heap[w.heap.size]? = some (.cells cs 25 (0, 0)) := by
  rw [h.block w.heap.size (by show w.heap.size < (w.heap.push _).size; simp)]
  exact heap_alloc_new w _

/-- The best so far, in its box. -/
def DBox (w : World) (B : Nat) (zs : List Int) (ps ms : List ByteArray) (k : Nat) : Prop :=
  w.heap[B]? = some (.cells (dv (zs.getD (bIdx (fun i => zs.getD i 0) (fun i => ps.getD i ByteArray.empty) (k - 1)) 0) (ps.getD (bIdx (fun i => zs.getD i 0) (fun i => ps.getD i ByteArray.empty) (k - 1)) ByteArray.empty) (ms.getD (bIdx (fun i => zs.getD i 0) (fun i => ps.getD i ByteArray.empty) (k - 1)) ByteArray.empty)) 25 (0, 0))
theorem DBox.step {w : World} {B : Nat} {zs : List Int} {ps ms : List ByteArray} {k N : Nat} (_ : DBox w B zs ps ms k) (_ : k ≤ N) (hk : 1 ≤ k) :
    (orank (zs.getD k 0) (ps.getD k ByteArray.empty) (zs.getD (bIdx (fun i => zs.getD i 0) (fun i => ps.getD i ByteArray.empty) (k - 1)) 0) (ps.getD (bIdx (fun i => zs.getD i 0) (fun i => ps.getD i ByteArray.empty) (k - 1)) ByteArray.empty) = true →
      ∀ {w' : World}, w'.heap[B]? = some (.cells #[.int .i64 (zs.getD k 0), .string (ps.getD k ByteArray.empty), .string (ms.getD k ByteArray.empty)] 25 (0, 0)) → DBox w' B zs ps ms (k + 1)) ∧
    (orank (zs.getD k 0) (ps.getD k ByteArray.empty) (zs.getD (bIdx (fun i => zs.getD i 0) (fun i => ps.getD i ByteArray.empty) (k - 1)) 0) (ps.getD (bIdx (fun i => zs.getD i 0) (fun i => ps.getD i ByteArray.empty) (k - 1)) ByteArray.empty) = false →
      ∀ {w' : World}, w'.heap[B]? = some (.cells #[.int .i64 (zs.getD (bIdx (fun i => zs.getD i 0) (fun i => ps.getD i ByteArray.empty) (k - 1)) 0), .string (ps.getD (bIdx (fun i => zs.getD i 0) (fun i => ps.getD i ByteArray.empty) (k - 1)) ByteArray.empty), .string (ms.getD (bIdx (fun i => zs.getD i 0) (fun i => ps.getD i ByteArray.empty) (k - 1)) ByteArray.empty)] 25 (0, 0)) → DBox w' B zs ps ms (k + 1)) := by
  obtain ⟨j, rfl⟩ : ∃ j, k = j + 1 := ⟨k - 1, by omega⟩
  simp only [Nat.add_sub_cancel]
  constructor
  · intro h w' hw
    unfold DBox
    simp only [Nat.add_sub_cancel]
    rw [show bIdx (fun i => zs.getD i 0) (fun i => ps.getD i ByteArray.empty) (j + 1) = j + 1 by rw [bIdx]; rw [if_pos h]]
    exact hw
  · intro h w' hw
    unfold DBox
    simp only [Nat.add_sub_cancel]
    rw [show bIdx (fun i => zs.getD i 0) (fun i => ps.getD i ByteArray.empty) (j + 1) = bIdx (fun i => zs.getD i 0) (fun i => ps.getD i ByteArray.empty) j by rw [bIdx]; rw [if_neg (by rw [h]; simp)]]
    exact hw
def Mx (z : Nat → Int) (k : Nat) (t : Int) : Prop := (∀ i, i < k → z i ≤ t) ∧ ∃ i, i < k ∧ z i = t
theorem Mx.one (z : Nat → Int) : Mx z 1 (z 0) := ⟨fun i hi => (by have h : i = 0 := (by omega); rw [h]; exact Int.le_refl _), 0, (by omega), rfl⟩
theorem Mx.up {z : Nat → Int} {k : Nat} {t : Int} (h : Mx z k t) (hz : t < z k) : Mx z (k + 1) (z k) := ⟨fun i hi => by
  by_cases h1 : i < k
  · have := h.1 i h1; omega
  · obtain rfl : i = k := by omega
    exact Int.le_refl _, k, by omega, rfl⟩
theorem Mx.keep {z : Nat → Int} {k : Nat} {t : Int} (h : Mx z k t) (hz : z k ≤ t) : Mx z (k + 1) t := ⟨fun i hi => by
  by_cases h1 : i < k
  · exact h.1 i h1
  · obtain rfl : i = k := by omega
    exact hz, by obtain ⟨i, hi, he⟩ := h.2; exact ⟨i, by omega, he⟩⟩
def Nm (z : Nat → Int) (p : Nat → ByteArray) (t : Int) (k : Nat) (b : Bool) : Prop := (b = true → ∃ i, i < k ∧ z i = t ∧ noName (p i) = false) ∧ (b = false → ∀ i, i < k → z i = t → noName (p i) = true)
theorem Nm.zero (z : Nat → Int) (p : Nat → ByteArray) (t : Int) : Nm z p t 0 false := ⟨(fun h => by cases h), (fun _ i hi => by omega)⟩
theorem Nm.on {z : Nat → Int} {p : Nat → ByteArray} {t : Int} {k : Nat} (h1 : z k = t) (h2 : noName (p k) = false) : Nm z p t (k + 1) true := ⟨(fun _ => ⟨k, by omega, h1, h2⟩), (fun h => by cases h)⟩
theorem Nm.off {z : Nat → Int} {p : Nat → ByteArray} {t : Int} {k : Nat} {b : Bool} (h : Nm z p t k b) (hn : ¬ (z k = t ∧ noName (p k) = false)) : Nm z p t (k + 1) b := by
  refine ⟨fun hb => ?_, fun hb i hi he => ?_⟩
  · obtain ⟨i, hi, h1, h2⟩ := h.1 hb
    exact ⟨i, by omega, h1, h2⟩
  · by_cases hik : i < k
    · exact h.2 hb i hik he
    · obtain rfl : i = k := by omega
      cases hc : noName (p i) with
      | true => rfl
      | false => exact absurd ⟨he, hc⟩ hn
def Fi (z : Nat → Int) (p : Nat → ByteArray) (t : Int) (b : Bool) (N k m : Nat) : Prop :=
  (k ≤ m ∧ m < N ∧ z m = t ∧ (!noName (p m)) = b ∧ ∀ i, k ≤ i → i < m → ¬ (z i = t ∧ (!noName (p i)) = b)) ∨ (∀ i, k ≤ i → i < N → ¬ (z i = t ∧ (!noName (p i)) = b)) ∧ m = 0
theorem Fi.start (z : Nat → Int) (p : Nat → ByteArray) (t : Int) (b : Bool) (N : Nat) : Fi z p t b N N 0 := .inr ⟨fun i h1 h2 => by omega, rfl⟩
theorem Fi.on {z : Nat → Int} {p : Nat → ByteArray} {t : Int} {b : Bool} {N k : Nat} (hk : k < N) (h1 : z k = t) (h2 : (!noName (p k)) = b) : Fi z p t b N k k := .inl ⟨Nat.le_refl _, hk, h1, h2, fun i h1 h2 => by omega⟩
theorem Fi.off {z : Nat → Int} {p : Nat → ByteArray} {t : Int} {b : Bool} {N k m : Nat} (h : Fi z p t b N (k + 1) m) (hn : ¬ (z k = t ∧ (!noName (p k)) = b)) : Fi z p t b N k m := by
  have key : ∀ i, k ≤ i → (k + 1 ≤ i → ¬ (z i = t ∧ (!noName (p i)) = b)) → ¬ (z i = t ∧ (!noName (p i)) = b) := fun i hi hh => by
    by_cases hik : k + 1 ≤ i
    · exact hh hik
    · obtain rfl : i = k := by omega
      exact hn
  rcases h with ⟨g1, g2, g3, g4, g5⟩ | ⟨g1, g2⟩
  · exact .inl ⟨by omega, g2, g3, g4, fun i h1 h2 => key i h1 (fun h => g5 i h h2)⟩
  · exact .inr ⟨fun i h1 h2 => key i h1 (fun h => g1 i h h2), g2⟩
theorem fold_end {z : Nat → Int} {p : Nat → ByteArray} {N : Nat} {t : Int} {b : Bool} {m : Nat} (hN : 0 < N) (h1 : Mx z N t) (h2 : Nm z p t N b) (h3 : Fi z p t b N 0 m) : z (bIdx z p (N - 1)) = t ∧ m = bIdx z p (N - 1) := by
  refine fold_law z p N hN t b m h1.1 h1.2 h2.1 h2.2 ?_
  rcases h3 with ⟨g1, g2, g3, g4, g5⟩ | ⟨g1, g2⟩
  · exact .inl ⟨g2, g3, g4, fun i hi => g5 i (Nat.zero_le _) hi⟩
  · exact .inr ⟨fun i hi => g1 i (Nat.zero_le _) hi, g2⟩
theorem below_drewN {B : Nat} {a w : World} (h : Below B a w) (n : Nat) : Below B a (w.drewN n) := ⟨h.os, h.tape, h.output, h.size, h.block⟩
theorem boxA {w w2 : World} {cs : Array Value} (h : Below ((w.alloc (.cells cs 25)).drew).heap.size ((w.alloc (.cells cs 25)).drew) w2) (x y z : Value) : Below w.heap.size w (((w2.setCell ⟨w.heap.size, 0, none⟩ x).setCell ⟨w.heap.size, 1, none⟩ y).setCell ⟨w.heap.size, 2, none⟩ z) := by
  have h0 : Below w.heap.size w ((w.alloc (.cells cs 25)).drew) := ((Below.refl _ _).alloc (Nat.le_refl _) _).drew
  exact (((h0.trans (h.mono h0.size)).setCell (p := ⟨w.heap.size, 0, none⟩) (Nat.le_refl _) _).setCell (p := ⟨w.heap.size, 1, none⟩) (Nat.le_refl _) _).setCell (p := ⟨w.heap.size, 2, none⟩) (Nat.le_refl _) _
theorem boxB {w w2 : World} (h : Below w.drew.heap.size w.drew w2) (o : Array Value) : Below w.heap.size w (w2.alloc (.cells o 25)) := by
  have h0 : Below w.heap.size w w.drew := (Below.refl _ _).drew
  have h1 := h0.trans (h.mono h0.size)
  exact h1.alloc h1.size _

set_option maxRecDepth 100000 in
set_option maxHeartbeats 8000000 in
theorem fold_any (a1 a2 a3 : Option Addr) (zs : List Int) (ps ms : List ByteArray) (c1 c2 c3 : Nat) (w : World) (hz : IntsAt w a1 zs) (hp : StrsAt w a2 ps) (hm : StrsAt w a3 ms) (l1 : zs.length ≤ maxLen) (l2 : ps.length ≤ maxLen) (l3 : ms.length ≤ maxLen) :
    Calls Try.prog 4 #[.slice a1 zs.length c1, .slice a2 ps.length c2, .slice a3 ms.length c3] w fun e w' => e = .returned (.bool true) ∧ Below w.heap.size w w' := by
  have K8 := bytes8 a1 a2 a3 zs ps ms c1 c2 c3 w hp hm l1 l2 l3
  unfold maxLen at l1 l2 l3
  by_cases d : 65536 < zs.length ∨ 65536 < ps.length ∨ 65536 < ms.length
  · go_enter Try.func4, Try.ntmps4
    go_wp2_with fail
    refine K8.mono ?_
    rintro e w' ⟨b, rfl, rfl⟩
    cases b
    · go_wp2
      go_ret
      exact ⟨rfl, Below.refl _ _⟩
    by_cases d1 : 65536 < zs.length
    · go_wp2
      go_ret
      exact ⟨rfl, Below.refl _ _⟩
    by_cases d2 : 65536 < ps.length
    · go_wp2
      go_ret
      exact ⟨rfl, Below.refl _ _⟩
    have d3 : 65536 < ms.length := by omega
    go_wp2
    go_ret
    exact ⟨rfl, Below.refl _ _⟩
  have d1 : zs.length ≤ 65536 := by omega
  have d2 : ps.length ≤ 65536 := by omega
  have d3 : ms.length ≤ 65536 := by omega
  have f1 : decide ((65536 : Int) < (zs.length : Int)) = false := by simp; omega
  have f2 : decide ((65536 : Int) < (ps.length : Int)) = false := by simp; omega
  have f3 : decide ((65536 : Int) < (ms.length : Int)) = false := by simp; omega
  clear d l1 l2 l3
  go_enter Try.func4, Try.ntmps4
  go_wp2_with fail
  refine K8.mono ?_
  rintro e w' ⟨b, rfl, rfl⟩
  clear K8
  cases b
  · go_wp2
    go_ret
    exact ⟨rfl, Below.refl _ _⟩
  by_cases t0 : 1048576 < 8 * (zs.length : Int) + 16 * (ps.length : Int) + 16 * (ms.length : Int)
  · go_wp2
    go_ret
    exact ⟨rfl, Below.refl _ _⟩
  go_wp2
  go_loop [7, 8] (fun t i => ∃ (k : Nat) (n : Int), k ≤ ps.length ∧ i = .int .i64 k ∧ t = .int .i64 n ∧ 0 ≤ n ∧ n ≤ 1048576) (fun _ i => ps.length - (intOf i).toNat)
  case atStart => exact ⟨0, _, Nat.zero_le _, rfl, rfl, by omega, by omega⟩
  case round =>
    obtain ⟨k, n, hk, rfl, rfl, hn0, hn1⟩ := hrel
    by_cases hlt : k < ps.length
    · obtain ⟨b, off, rfl, hb, hc, hzz⟩ := hp k hlt
      generalize ps.getD k ByteArray.empty = s at *
      unfold maxLen at hzz
      by_cases e1 : 1048576 < s.size
      · go_wp2
        go_ret
        exact ⟨rfl, Below.refl _ _⟩
      by_cases e2 : 1048576 < n + (s.size : Int)
      · go_wp2
        go_ret
        exact ⟨rfl, Below.refl _ _⟩
      go_wp2
      go_round
      case rel => exact ⟨k + 1, _, by omega, by go_num, rfl, by omega, by omega⟩
      case measure => simp [intOf]; omega
    obtain rfl : k = ps.length := by omega
    go_wp2
    go_loop [7, 9] (fun t i => ∃ (k : Nat) (n : Int), k ≤ ms.length ∧ i = .int .i64 k ∧ t = .int .i64 n ∧ 0 ≤ n ∧ n ≤ 1048576) (fun _ i => ms.length - (intOf i).toNat)
    case atStart => exact ⟨0, _, Nat.zero_le _, rfl, rfl, by omega, by omega⟩
    case round =>
      obtain ⟨k, n, hk, rfl, rfl, hn0, hn1⟩ := hrel
      by_cases hlt : k < ms.length
      · obtain ⟨b, off, rfl, hb, hc, hzz⟩ := hm k hlt
        generalize ms.getD k ByteArray.empty = s at *
        unfold maxLen at hzz
        by_cases e1 : 1048576 < s.size
        · go_wp2
          go_ret
          exact ⟨rfl, Below.refl _ _⟩
        by_cases e2 : 1048576 < n + (s.size : Int)
        · go_wp2
          go_ret
          exact ⟨rfl, Below.refl _ _⟩
        go_wp2
        go_round
        case rel => exact ⟨k + 1, _, by omega, by go_num, rfl, by omega, by omega⟩
        case measure => simp [intOf]; omega
      obtain rfl : k = ms.length := by omega
      go_upto_if 98 with fail
      go_cut [10] from 95 to 106 (fun n wx => ∃ N : Nat, n = .int .i64 N ∧ N ≤ zs.length ∧ N ≤ ps.length ∧ wx = w')
      case first =>
        by_cases e : ps.length < zs.length
        · go_wp2
          go_meet
          case rel => exact ⟨ps.length, rfl, by omega, by omega, rfl⟩
        · go_wp2
          go_meet
          case rel => exact ⟨zs.length, rfl, by omega, by omega, rfl⟩
      case rest =>
        obtain ⟨N', rfl, n1, n2, rfl⟩ := hcut
        go_upto_if 104 with fail
        go_cut [10] from 95 to 106 (fun n wx => ∃ N : Nat, n = .int .i64 N ∧ N ≤ zs.length ∧ N ≤ ps.length ∧ N ≤ ms.length ∧ wx = wc)
        case first =>
          by_cases e : ms.length < N'
          · go_wp2
            go_meet
            case rel => exact ⟨ms.length, rfl, by omega, by omega, by omega, rfl⟩
          · go_wp2
            go_meet
            case rel => exact ⟨N', rfl, by omega, by omega, by omega, rfl⟩
        case rest =>
          obtain ⟨N, rfl, m1, m2, m3, rfl⟩ := hcut
          clear hn0 hn1 n1 n2 hlt hk f1 f2 f3 t0
          obtain ⟨w0, hw0⟩ : ∃ w0, w0 = wc := ⟨_, rfl⟩
          subst hw0
          have hz0 := hz
          have hp0 := hp
          have hm0 := hm
          by_cases hN0 : N = 0
          · subst hN0
            go_wp2
            go_ret
            exact ⟨rfl, Below.refl _ _⟩
          obtain ⟨b1, o1, rfl, g1, v1⟩ := hz 0 (by omega)
          obtain ⟨b2, o2, rfl, g2, v2, z2⟩ := hp 0 (by omega)
          obtain ⟨b3, o3, rfl, g3, v3, z3⟩ := hm 0 (by omega)
          simp only [Nat.add_zero] at v1 v2 v3
          go_upto_region 31 with fail
          go_cut [11] from 107 to 118 (fun q wx => ∃ B, q = .pointer (some ⟨B, 0, none⟩) ∧ wx.heap[B]? = some (.cells (dv (zs.getD 0 0) (ps.getD 0 ByteArray.empty) (ms.getD 0 ByteArray.empty)) 25 (0, 0)) ∧ w0.heap.size ≤ B ∧ Below w0.heap.size w0 wx)
          case first =>
            generalize zs.getD 0 0 = Z0 at *
            generalize ps.getD 0 ByteArray.empty = P0 at *
            generalize ms.getD 0 ByteArray.empty = M0 at *
            clear hz hp hm hz0 hp0 hm0
            generalize zs.length = L1 at *
            generalize ps.length = L2 at *
            generalize ms.length = L3 at *
            have x1 : 0 < L1 := by omega
            have x2 : 0 < L2 := by omega
            have x3 : 0 < L3 := by omega
            have x1' : ¬ L1 = 0 := by omega
            have x2' : ¬ L2 = 0 := by omega
            have x3' : ¬ L3 = 0 := by omega
            have y1 : b1 ≠ w0.heap.size := Nat.ne_of_lt g1
            have y1' : w0.heap.size ≠ b1 := Ne.symm y1
            have y2' : w0.heap.size ≠ b2 := (Nat.ne_of_lt g2).symm
            have y3' : w0.heap.size ≠ b3 := (Nat.ne_of_lt g3).symm
            have y2 : b2 ≠ w0.heap.size := Nat.ne_of_lt g2
            have y3 : b3 ≠ w0.heap.size := Nat.ne_of_lt g3
            go_region_held3 (fun w' => w'.cell? ⟨b1, o1, none⟩ = some (.int .i64 Z0) ∧ w'.cell? ⟨b2, o2, none⟩ = some (.string P0) ∧ w'.cell? ⟨b3, o3, none⟩ = some (.string M0)) (go_keep)
              (first
                | (go_at_call 6; refine (mk_any _ _ _ _).mono ?_; rintro e w2 ⟨rfl, hb2⟩; unfold dv; have kb := mbox hb2; have k1 := hb2.cell (p := ⟨b1, o1, none⟩) (by simp; omega); have k2 := hb2.cell (p := ⟨b2, o2, none⟩) (by simp; omega); have k3 := hb2.cell (p := ⟨b3, o3, none⟩) (by simp; omega); simp at k1 k2 k3; have j0 := three0 kb; have j1 := three1 kb; have j2 := three2 kb; have i0 := cells_free kb 0; have i1 := cells_free kb 1; have i2 := cells_free kb 2)
                | (go_at_call 6; refine (mk_any _ _ _ _).mono ?_; rintro e w2 ⟨rfl, hb2⟩; unfold dv; have k1 := hb2.cell (p := ⟨b1, o1, none⟩) g1; have k2 := hb2.cell (p := ⟨b2, o2, none⟩) g2; have k3 := hb2.cell (p := ⟨b3, o3, none⟩) g3; simp [v1, v2, v3] at k1 k2 k3))
            · go_wp2_with fail
              go_meet
              case rel => exact ⟨w2.heap.size, rfl, heap_alloc_new _ _, hb2.size, boxB hb2 _⟩
            · go_wp2_with fail
              go_meet
              case rel => exact ⟨w0.heap.size, rfl, cells_setCell (cells_setCell (cells_setCell kb 0 _) 1 _) 2 _, Nat.le_refl _, boxA hb2 _ _ _⟩
          case rest =>
            obtain ⟨B, rfl, hB, hBl, hbB⟩ := hcut
            clear v1 v2 v3 z2 z3
            go_wp2
            go_loopw [12, 13] (fun i _ wr => ∃ k : Nat, 1 ≤ k ∧ k ≤ N ∧ i = .int .i64 k ∧ DBox wr B zs ps ms k ∧ Below w0.heap.size w0 wr) (fun i _ _ => N - (intOf i).toNat)
            case atStart => exact ⟨1, Nat.le_refl _, by omega, rfl, hB, hbB⟩
            case round =>
              obtain ⟨k, hk0, hk, rfl, hbox, hbr⟩ := hrel
              by_cases hlt : k < N
              · obtain ⟨_, _, e1, r1, v1⟩ := (hz0.later hbr) k (by omega)
                cases e1
                obtain ⟨_, _, e2, r2, v2, _⟩ := (hp0.later hbr) k (by omega)
                cases e2
                obtain ⟨_, _, e3, r3, v3, _⟩ := (hm0.later hbr) k (by omega)
                cases e3
                have hst := DBox.step hbox (Nat.le_of_lt hlt) hk0
                have hBr : B < wr.heap.size := lt_of_block hbox
                have hbox0 := hbox
                unfold DBox at hbox0
                generalize zs.getD (bIdx (fun i => zs.getD i 0) (fun i => ps.getD i ByteArray.empty) (k - 1)) 0 = ZJ at *
                generalize ps.getD (bIdx (fun i => zs.getD i 0) (fun i => ps.getD i ByteArray.empty) (k - 1)) ByteArray.empty = PJ at *
                generalize ms.getD (bIdx (fun i => zs.getD i 0) (fun i => ps.getD i ByteArray.empty) (k - 1)) ByteArray.empty = MJ at *
                generalize zs.getD k 0 = Z at *
                generalize ps.getD k ByteArray.empty = P at *
                generalize ms.getD k ByteArray.empty = M at *
                have x1 : (k : Int) < (zs.length : Int) := by omega
                have x2 : (k : Int) < (ps.length : Int) := by omega
                have x3 : (k : Int) < (ms.length : Int) := by omega
                go_upto_region 35 with fail
                go_cut [13] from 119 to 140 (fun q wx => ∃ X, q = .pointer (some ⟨X, 0, none⟩) ∧ wx.heap[X]? = some (.cells (dv Z P M) 25 (0, 0)) ∧ wr.heap.size ≤ X ∧ Below wr.heap.size wr wx)
                case first =>
                  have y1 : b1 ≠ wr.heap.size := Nat.ne_of_lt r1
                  have y1' : wr.heap.size ≠ b1 := Ne.symm y1
                  have y2' : wr.heap.size ≠ b2 := (Nat.ne_of_lt r2).symm
                  have y3' : wr.heap.size ≠ b3 := (Nat.ne_of_lt r3).symm
                  have y2 : b2 ≠ wr.heap.size := Nat.ne_of_lt r2
                  have y3 : b3 ≠ wr.heap.size := Nat.ne_of_lt r3
                  clear hst hbox hbox0 hz hp hm hz0 hp0 hm0
                  go_region_held3 (fun w' => w'.cell? ⟨b1, o1 + k, none⟩ = some (.int .i64 Z) ∧ w'.cell? ⟨b2, o2 + k, none⟩ = some (.string P) ∧ w'.cell? ⟨b3, o3 + k, none⟩ = some (.string M)) (go_keep)
                  (first
                    | (go_at_call 6; refine (mk_any _ _ _ _).mono ?_; rintro e w2 ⟨rfl, hb2⟩; unfold dv; have kb := mbox hb2; have k1 := hb2.cell (p := ⟨b1, o1 + k, none⟩) (by simp; omega); have k2 := hb2.cell (p := ⟨b2, o2 + k, none⟩) (by simp; omega); have k3 := hb2.cell (p := ⟨b3, o3 + k, none⟩) (by simp; omega); simp at k1 k2 k3; have j0 := three0 kb; have j1 := three1 kb; have j2 := three2 kb; have i0 := cells_free kb 0; have i1 := cells_free kb 1; have i2 := cells_free kb 2)
                    | (go_at_call 6; refine (mk_any _ _ _ _).mono ?_; rintro e w2 ⟨rfl, hb2⟩; unfold dv; have k1 := hb2.cell (p := ⟨b1, o1 + k, none⟩) r1; have k2 := hb2.cell (p := ⟨b2, o2 + k, none⟩) r2; have k3 := hb2.cell (p := ⟨b3, o3 + k, none⟩) r3; simp [v1, v2, v3] at k1 k2 k3))
                  · go_wp2_with fail
                    go_meet
                    case rel => exact ⟨w2.heap.size, rfl, heap_alloc_new _ _, hb2.size, boxB hb2 _⟩
                  · go_wp2_with fail
                    go_meet
                    case rel => exact ⟨wr.heap.size, rfl, cells_setCell (cells_setCell (cells_setCell kb 0 _) 1 _) 2 _, Nat.le_refl _, boxA hb2 _ _ _⟩
                case rest =>
                  obtain ⟨X, rfl, hX, hXl, hbX⟩ := hcut
                  have K7 := fun w => outranks7 Z P M ZJ PJ MJ w
                  have hBc : wc.heap[B]? = _ := (hbX.block B hBr).trans hbox0
                  clear v1 v2 v3 hbox hbox0
                  unfold dv at K7 hX hBc
                  have p0 := three0 hX
                  have p1 := three1 hX
                  have p2 := three2 hX
                  have q0 := three0 hBc
                  have q1 := three1 hBc
                  have q2 := three2 hBc
                  go_wp2_with fail
                  refine (K7 _).mono ?_
                  rintro e w7 ⟨rfl, hb7⟩
                  have hXlt : X < wc.heap.size := lt_of_block hX
                  have hBlt : B < wc.heap.size := lt_of_block hBc
                  have hX7 : w7.heap[X]? = _ := (hb7.block X hXlt).trans hX
                  have hB7 : w7.heap[B]? = _ := (hb7.block B hBlt).trans hBc
                  have b07 : Below w0.heap.size w0 w7 := (hbr.trans (hbX.mono hbr.size)).trans (hb7.mono (Nat.le_trans hbr.size hbX.size))
                  clear p0 p1 p2 q0 q1 q2 K7 hX hBc
                  have p0 := three0 hX7
                  have p1 := three1 hX7
                  have p2 := three2 hX7
                  have q0 := three0 hB7
                  have q1 := three1 hB7
                  have q2 := three2 hB7
                  have i0 := cells_free hB7 0
                  have i1 := cells_free hB7 1
                  have i2 := cells_free hB7 2
                  have hne : B ≠ X := by omega
                  have hne' : X ≠ B := by omega
                  generalize orank Z P ZJ PJ = o at *
                  cases o
                  · have R1 := hst.2 rfl hB7
                    go_wp2
                    go_roundw
                    case rel => exact ⟨k + 1, by omega, by omega, by go_num, R1, b07⟩
                    case measure => simp [intOf]; omega
                  · have R1 := hst.1 rfl (cells_setCell (cells_setCell (cells_setCell hB7 0 (.int .i64 Z)) 1 (.string P)) 2 (.string M))
                    have R2 := ((b07.setCell (p := ⟨B, 0, none⟩) hBl (.int .i64 Z)).setCell (p := ⟨B, 1, none⟩) hBl (.string P)).setCell (p := ⟨B, 2, none⟩) hBl (.string M)
                    go_wp2
                    go_roundw
                    case rel => exact ⟨k + 1, by omega, by omega, by go_num, R1, R2⟩
                    case measure => simp [intOf]; omega
              obtain rfl : k = N := by omega
              have hzr := hz0.later hbr
              have hpr := hp0.later hbr
              have hmr := hm0.later hbr
              clear hz hp hm hz0 hp0 hm0
              obtain ⟨_, _, e1, r1, v1⟩ := hzr 0 (by omega)
              cases e1
              simp only [Nat.add_zero] at v1
              have hx0 : Hid (Mx (fun i => zs.getD i 0) 1 (zs.getD 0 0)) := Mx.one _
              have x0 : 0 < zs.length := by omega
              have x0' : (0 : Int) < (zs.length : Int) := by omega
              generalize zs.getD 0 0 = Z0 at v1 hx0
              go_wp2
              go_loop [14, 15] (fun st i => ∃ (j : Nat) (t : Int), 1 ≤ j ∧ j ≤ k ∧ i = .int .i64 j ∧ st = .int .i64 t ∧ Hid (Mx (fun i => zs.getD i 0) j t)) (fun _ i => k - (intOf i).toNat)
              case atStart => exact ⟨1, Z0, Nat.le_refl _, by omega, rfl, rfl, hx0⟩
              case round =>
                obtain ⟨j, t, hj0, hj, rfl, rfl, hMx⟩ := hrel
                clear v1 hx0
                by_cases hlt2 : j < k
                · obtain ⟨_, _, e1, r1', v1⟩ := hzr j (by omega)
                  cases e1
                  have up : t < zs.getD j 0 → Mx (fun i => zs.getD i 0) (j + 1) (zs.getD j 0) := Mx.up hMx.out
                  have keep : zs.getD j 0 ≤ t → Mx (fun i => zs.getD i 0) (j + 1) t := Mx.keep hMx.out
                  have x1 : (j : Int) < (zs.length : Int) := by omega
                  generalize zs.getD j 0 = Z at v1 up keep
                  by_cases hgt : t < Z
                  · have u := up hgt
                    clear up keep
                    go_wp2
                    go_round
                    case rel => exact ⟨j + 1, Z, by omega, by omega, by go_num, rfl, u⟩
                    case measure => simp [intOf]; omega
                  · have u := keep (by omega)
                    clear up keep
                    go_wp2
                    go_round
                    case rel => exact ⟨j + 1, t, by omega, by omega, by go_num, rfl, u⟩
                    case measure => simp [intOf]; omega
                obtain rfl : j = k := by omega
                go_wp2
                go_loop [16, 17] (fun nd i => ∃ (q : Nat) (b : Bool), q ≤ j ∧ i = .int .i64 q ∧ nd = .bool b ∧ Hid (Nm (fun i => zs.getD i 0) (fun i => ps.getD i ByteArray.empty) t q b)) (fun _ i => j - (intOf i).toNat)
                case atStart => exact ⟨0, false, Nat.zero_le _, rfl, rfl, Nm.zero _ _ _⟩
                case round =>
                  obtain ⟨q, b, hq, rfl, rfl, hNm⟩ := hrel
                  by_cases hlt3 : q < j
                  · obtain ⟨_, _, e1, r1', v1⟩ := hzr q (by omega)
                    cases e1
                    obtain ⟨_, _, e2, r2', v2, _⟩ := hpr q (by omega)
                    cases e2
                    have on : zs.getD q 0 = t → noName (ps.getD q ByteArray.empty) = false → Nm (fun i => zs.getD i 0) (fun i => ps.getD i ByteArray.empty) t (q + 1) true := Nm.on (z := fun i => zs.getD i 0) (p := fun i => ps.getD i ByteArray.empty)
                    have off : ¬ (zs.getD q 0 = t ∧ noName (ps.getD q ByteArray.empty) = false) → Nm (fun i => zs.getD i 0) (fun i => ps.getD i ByteArray.empty) t (q + 1) b := Nm.off hNm.out
                    have x1 : (q : Int) < (zs.length : Int) := by omega
                    have x2 : (q : Int) < (ps.length : Int) := by omega
                    generalize zs.getD q 0 = Z at v1 on off
                    generalize ps.getD q ByteArray.empty = P at v2 on off
                    by_cases he : Z = t
                    · by_cases hn : P.toList = []
                      · have u := off (fun h => by rw [noName, hn] at h; exact absurd h.2 (by simp))
                        clear on off
                        subst he
                        go_wp2
                        go_round
                        case rel => exact ⟨q + 1, b, by omega, by go_num, rfl, u⟩
                        case measure => simp [intOf]; omega
                      · have u := on he (by rw [noName]; simpa using hn)
                        have hne : P.toList.isEmpty = false := by simpa using hn
                        clear on off
                        subst he
                        go_wp2
                        go_round
                        case rel => exact ⟨q + 1, true, by omega, by go_num, rfl, u⟩
                        case measure => simp [intOf]; omega
                    · have u := off (fun h => he h.1)
                      have he' : (Z == t) = false := by simpa using he
                      clear on off
                      go_wp2
                      go_round
                      case rel => exact ⟨q + 1, b, by omega, by go_num, rfl, u⟩
                      case measure => simp [intOf]; omega
                  obtain rfl : q = j := by omega
                  go_wp2
                  go_loop [18, 19] (fun ix i => ∃ (c m : Nat), c ≤ q ∧ i = .int .i64 ((c : Int) - 1) ∧ ix = .int .i64 m ∧ Hid (Fi (fun i => zs.getD i 0) (fun i => ps.getD i ByteArray.empty) t b q c m)) (fun _ i => (intOf i + 1).toNat)
                  case atStart => exact ⟨q, 0, Nat.le_refl _, by go_num, rfl, Fi.start _ _ _ _ _⟩
                  case round =>
                    obtain ⟨c, m, hc, hi, rfl, hFi⟩ := hrel
                    cases c with
                    | succ c =>
                      have hi' := hi.trans (show Value.int .i64 (((c + 1 : Nat) : Int) - 1) = .int .i64 (c : Int) by congr 1; omega)
                      clear hi
                      subst hi'
                      obtain ⟨_, _, e1, r1', v1⟩ := hzr c (by omega)
                      cases e1
                      obtain ⟨_, _, e2, r2', v2, _⟩ := hpr c (by omega)
                      cases e2
                      have on : zs.getD c 0 = t → (!noName (ps.getD c ByteArray.empty)) = b → Fi (fun i => zs.getD i 0) (fun i => ps.getD i ByteArray.empty) t b q c c := Fi.on (z := fun i => zs.getD i 0) (p := fun i => ps.getD i ByteArray.empty) (N := q) (k := c) (by omega)
                      have off : ¬ (zs.getD c 0 = t ∧ (!noName (ps.getD c ByteArray.empty)) = b) → Fi (fun i => zs.getD i 0) (fun i => ps.getD i ByteArray.empty) t b q c m := Fi.off hFi.out
                      have x1 : (c : Int) < (zs.length : Int) := by omega
                      have x2 : (c : Int) < (ps.length : Int) := by omega
                      generalize zs.getD c 0 = Z at v1 on off
                      generalize ps.getD c ByteArray.empty = P at v2 on off
                      by_cases he : Z = t
                      · by_cases hn : P.toList = []
                        · have hnn : noName P = true := by rw [noName, hn]; rfl
                          cases b
                          · have u := on he (by rw [hnn]; rfl)
                            clear on off
                            subst he
                            go_wp2
                            go_round
                            case rel => exact ⟨c, c, by omega, by go_num, rfl, u⟩
                            case measure => simp [intOf]
                          · have u := off (fun h => by rw [hnn] at h; exact absurd h.2 (by simp))
                            clear on off
                            subst he
                            go_wp2
                            go_round
                            case rel => exact ⟨c, m, by omega, by go_num, rfl, u⟩
                            case measure => simp [intOf]
                        · have hnn : noName P = false := by rw [noName]; simpa using hn
                          have hne : P.toList.isEmpty = false := by simpa using hn
                          cases b
                          · have u := off (fun h => by rw [hnn] at h; exact absurd h.2 (by simp))
                            clear on off
                            subst he
                            go_wp2
                            go_round
                            case rel => exact ⟨c, m, by omega, by go_num, rfl, u⟩
                            case measure => simp [intOf]
                          · have u := on he (by rw [hnn]; rfl)
                            clear on off
                            subst he
                            go_wp2
                            go_round
                            case rel => exact ⟨c, c, by omega, by go_num, rfl, u⟩
                            case measure => simp [intOf]
                      · have u := off (fun h => he h.1)
                        have he' : (Z == t) = false := by simpa using he
                        clear on off
                        go_wp2
                        go_round
                        case rel => exact ⟨c, m, by omega, by go_num, rfl, u⟩
                        case measure => simp [intOf]
                    | zero =>
                      have hi' := hi.trans (show Value.int .i64 (((0 : Nat) : Int) - 1) = .int .i64 (-1) by rfl)
                      clear hi
                      subst hi'
                      obtain ⟨hJ, hmJ⟩ := fold_end (by omega) hMx.out hNm.out hFi.out
                      obtain ⟨hJl, _⟩ := bIdx_ok (fun i => zs.getD i 0) (fun i => ps.getD i ByteArray.empty) (q - 1)
                      unfold DBox at hbox
                      rw [← hmJ] at hbox hJ hJl
                      have hJ' : zs.getD m 0 = t := hJ
                      rw [hJ'] at hbox
                      obtain ⟨_, _, e2, r2', v2, _⟩ := hpr m (by omega)
                      cases e2
                      obtain ⟨_, _, e3, r3', v3, _⟩ := hmr m (by omega)
                      cases e3
                      have x2 : (m : Int) < (ps.length : Int) := by omega
                      have x3 : (m : Int) < (ms.length : Int) := by omega
                      clear hMx hNm hFi hJ hJ' hmJ hJl hzr hpr hmr
                      generalize ps.getD m ByteArray.empty = PJ at *
                      generalize ms.getD m ByteArray.empty = MJ at *
                      unfold dv at hbox
                      have q0 := three0 hbox
                      have q1 := three1 hbox
                      have q2 := three2 hbox
                      clear hbox
                      go_wp2
                      go_quiet (fail)
                      go_wp2
                      go_ret
                      exact ⟨rfl, below_drewN hbr _⟩
end Go.Proofs.Qxb6616236a
