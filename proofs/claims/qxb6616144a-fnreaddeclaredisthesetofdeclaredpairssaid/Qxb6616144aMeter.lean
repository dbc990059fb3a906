import Derived.Test.Qxb6616144aProg
import Derived.WalkKit
import Derived.Below
import Derived.OneCell
import Derived.WalkSmall
namespace Go.Proofs.Qxb6616144a
open Go.RowKit

/-- The meter at block g: a sum within the bound, and a mark. -/
def Mtr (g : Nat) (w : World) : Prop :=
  ∃ (u : Int) (o : Bool), w.heap[g]? = some (.cells #[.int .i64 u, .bool o] 42 (0, 0)) ∧ 0 ≤ u ∧ u ≤ 1048576

theorem two_cell0 {w : World} {g : Nat} {a b : Value} {t : TypeId} (h : w.heap[g]? = some (.cells #[a, b] t (0, 0))) : w.cell? ⟨g, 0, none⟩ = some a := by simp [World.cell?, h]
theorem two_cell1 {w : World} {g : Nat} {a b : Value} {t : TypeId} (h : w.heap[g]? = some (.cells #[a, b] t (0, 0))) : w.cell? ⟨g, 1, none⟩ = some b := by simp [World.cell?, h]
theorem cells_free {w : World} {g : Nat} {c : Array Value} {t : TypeId} (h : w.heap[g]? = some (.cells c t (0, 0))) (j : Nat) : w.frozen? ⟨g, j, none⟩ = false := by simp [World.frozen?, h]
theorem cells_setCell {w : World} {g : Nat} {c : Array Value} {t : TypeId} (h : w.heap[g]? = some (.cells c t (0, 0))) (j : Nat) (u : Value) : (w.setCell ⟨g, j, none⟩ u).heap[g]? = some (.cells (c.setIfInBounds j u) t (0, 0)) := by
  have hlt := lt_of_block h
  have h' : w.heap[g] = .cells c t (0, 0) := by simpa [Array.getElem?_eq_getElem hlt] using h
  show (w.heap.modify g _)[g]? = _
  rw [Array.getElem?_eq_getElem (by simpa using hlt), Array.getElem_modify_self, h']
  rfl

/-- What a step of the meter leaves. -/
def Stp (g : Nat) (w w' : World) : Prop := Mtr g w' ∧ Below g w w' ∧ w'.heap.size = w.heap.size

theorem Stp.refl {g : Nat} {w : World} (h : Mtr g w) : Stp g w w := ⟨h, Below.refl _ _, rfl⟩
theorem Stp.trans {g : Nat} {a b c : World} (h : Stp g a b) (k : Stp g b c) : Stp g a c := ⟨k.1, h.2.1.trans k.2.1, k.2.2.trans h.2.2⟩

theorem stp_over {g : Nat} {w : World} {u : Int} {o : Bool} (h : w.heap[g]? = some (.cells #[.int .i64 u, .bool o] 42 (0, 0))) (h0 : 0 ≤ u) (h1 : u ≤ 1048576) : Stp g w (w.setCell ⟨g, 1, none⟩ (.bool true)) :=
  ⟨⟨u, true, by rw [cells_setCell h]; rfl, h0, h1⟩, (Below.refl g w).setCell (p := ⟨g, _, none⟩) (Nat.le_refl g) _, by simp [World.setCell]⟩
theorem stp_used {g : Nat} {w : World} {u : Int} {o : Bool} (h : w.heap[g]? = some (.cells #[.int .i64 u, .bool o] 42 (0, 0))) (v : Int) (h0 : 0 ≤ v) (h1 : v ≤ 1048576) : Stp g w (w.setCell ⟨g, 0, none⟩ (.int .i64 v)) :=
  ⟨⟨v, o, by rw [cells_setCell h]; rfl, h0, h1⟩, (Below.refl g w).setCell (p := ⟨g, _, none⟩) (Nat.le_refl g) _, by simp [World.setCell]⟩

set_option maxHeartbeats 400000 in
theorem add_any (g : Nat) (n : Int) (w : World) (h : Mtr g w) (hn : 0 ≤ n) (hn2 : n ≤ 9223372036854775807) :
    Calls Try.prog 16 #[.pointer (some ⟨g, 0, none⟩), .int .i64 n] w fun e w' => e = .returned (.tuple #[]) ∧ Stp g w w' := by
  have h' := h
  obtain ⟨u, o, hh, h0, h1⟩ := h
  have c0 := two_cell0 hh
  have c1 := two_cell1 hh
  have f0 := cells_free hh 0
  have f1 := cells_free hh 1
  have hn0 : ¬ n < 0 := by omega
  have so := stp_over hh h0 h1
  cases o
  · by_cases hov : n > 1048576 - u
    · clear hh h'
      go_enter Try.func16, Try.ntmps16
      go_wp2
      exact bodyPost_ret (results_none Try.results16 _ _ _) rfl ⟨rfl, so⟩
    · have su := stp_used hh (u + n) (by omega) (by omega)
      clear hh h'
      go_enter Try.func16, Try.ntmps16
      go_wp2
      go_end0
      exact ⟨rfl, su⟩
  · clear hh so
    go_enter Try.func16, Try.ntmps16
    go_wp2
    exact bodyPost_ret (results_none Try.results16 _ _ _) rfl ⟨rfl, Stp.refl h'⟩

set_option maxHeartbeats 400000 in
theorem addWords_any (g : Nat) (n k : Int) (w : World) (h : Mtr g w) (hn : 0 ≤ n) (hn2 : n ≤ 9223372036854775807) (hk : 1 ≤ k) (hk2 : k ≤ 100) :
    Calls Try.prog 19 #[.pointer (some ⟨g, 0, none⟩), .int .i64 n, .int .i64 k] w fun e w' => e = .returned (.tuple #[]) ∧ Stp g w w' := by
  have h' := h
  obtain ⟨u, o, hh, h0, h1⟩ := h
  have c0 := two_cell0 hh
  have c1 := two_cell1 hh
  have f0 := cells_free hh 0
  have f1 := cells_free hh 1
  have hn0 : ¬ n < 0 := by omega
  have so := stp_over hh h0 h1
  cases o
  · by_cases hov : n > (1048576 - u) / (8 * k)
    · clear hh h'
      go_enter Try.func19, Try.ntmps19
      go_wp2
      exact bodyPost_ret (results_none Try.results19 _ _ _) rfl ⟨rfl, so⟩
    · have hd : 0 ≤ (1048576 - u) / (8 * k) := Int.ediv_nonneg (by omega) (by omega)
      have hm : n * (8 * k) ≤ 1048576 - u := by
        have h2 : n ≤ (1048576 - u) / (8 * k) := by omega
        exact Int.le_trans (Int.mul_le_mul_of_nonneg_right h2 (by omega)) (Int.ediv_mul_le _ (by omega))
      have e0 : n * 8 ≤ n * (8 * k) := Int.mul_le_mul_of_nonneg_left (by omega) hn
      have e1 : n * 8 * k = n * (8 * k) := Int.mul_assoc _ _ _
      have e2 : 0 ≤ n * (8 * k) := Int.mul_nonneg hn (by omega)
      have ew : wrap64 (u + wrap64 (wrap64 (n * 8) * k)) = u + n * (8 * k) := by
        rw [IntWalk.wrap64_in (n * 8) (by omega), e1, IntWalk.wrap64_in (n * (8 * k)) (by omega), IntWalk.wrap64_in _ (by omega)]
      have su : Stp g w (w.setCell ⟨g, 0, none⟩ (.int .i64 (wrap64 (u + wrap64 (wrap64 (n * 8) * k))))) := by
        rw [ew]; exact stp_used hh _ (by omega) (by omega)
      clear hh h' e0 e1 e2 ew hm hd
      go_enter Try.func19, Try.ntmps19
      go_wp2
      go_end0
      exact ⟨rfl, su⟩
  · clear hh so
    go_enter Try.func19, Try.ntmps19
    go_wp2
    exact bodyPost_ret (results_none Try.results19 _ _ _) rfl ⟨rfl, Stp.refl h'⟩

/-- A slice of strings as the walks see it: its head, its length, what its cells hold. -/
def StrsAt (w : World) (a : Option Addr) (ss : List ByteArray) : Prop :=
  ∀ i, i < ss.length → ∃ b off, a = some ⟨b, off, none⟩ ∧ b < w.heap.size ∧ w.cell? ⟨b, off + i, none⟩ = some (.string (ss.getD i ByteArray.empty)) ∧ (ss.getD i ByteArray.empty).size ≤ maxLen

theorem StrsAt.below {B : Nat} {w w' : World} {a : Option Addr} {ss : List ByteArray} (h : StrsAt w a ss) (hb : Below B w w') (hB : w.heap.size ≤ B) : StrsAt w' a ss := by
  intro i hi
  obtain ⟨b, off, rfl, h1, h2, h3⟩ := h i hi
  exact ⟨b, off, rfl, Nat.lt_of_lt_of_le h1 hb.size, by rw [hb.cell (p := ⟨b, off + i, none⟩) (Nat.lt_of_lt_of_le h1 hB)]; exact h2, h3⟩

set_option maxHeartbeats 1000000 in
theorem addStrings_any (g : Nat) (a : Option Addr) (ss : List ByteArray) (cap : Nat) (w : World) (h : Mtr g w) (hs : StrsAt w a ss) (hlo : ∀ b off, a = some ⟨b, off, none⟩ → 0 < ss.length → b < g) (hl : ss.length ≤ 1048576) :
    Calls Try.prog 17 #[.pointer (some ⟨g, 0, none⟩), .slice a ss.length cap] w fun e w' => e = .returned (.tuple #[]) ∧ Stp g w w' := by
  go_enter Try.func17, Try.ntmps17
  go_wp2_with (go_at_call 19; refine (addWords_any g _ _ _ h (by omega) (by omega) (by omega) (by omega)).mono ?_; rintro e w1 ⟨rfl, hst⟩)
  go_loopw [4] (fun i wr => ∃ k : Nat, k ≤ ss.length ∧ i = .int .i64 k ∧ Stp g w wr) (fun i _ => ss.length - (intOf i).toNat)
  case atStart => exact ⟨0, Nat.zero_le _, rfl, hst⟩
  case round =>
    obtain ⟨k, hk, rfl, hstr⟩ := hrel
    have hm := hstr.1
    obtain ⟨u, o, hh, h0, h1⟩ := hstr.1
    have c1 := two_cell1 hh
    clear hh h0 h1
    by_cases hlt : k < ss.length
    · cases o
      · obtain ⟨b, off, rfl, hb, hc, hz⟩ := hs k hlt
        have hcx : wr.cell? ⟨b, off + k, none⟩ = some (.string (ss.getD k ByteArray.empty)) := (hstr.2.1.cell (p := ⟨b, off + k, none⟩) (hlo b off rfl (by omega))).trans hc
        generalize ss.getD k ByteArray.empty = s at *
        unfold maxLen at hz
        clear hc
        go_wp2_with (go_at_call 16; refine (add_any g _ _ hm (by omega) (by omega)).mono ?_; rintro e w2 ⟨rfl, hst2⟩)
        go_roundw
        case rel => exact ⟨k + 1, by omega, by go_num, hstr.trans hst2⟩
        case measure => simp [intOf]; omega
      · go_wp2
        go_end0
        exact ⟨rfl, hstr⟩
    · go_wp2
      go_end0
      exact ⟨rfl, hstr⟩

set_option maxHeartbeats 1000000 in
/-- approvalsFit: it answers; nothing that was there turns. -/
theorem fit_any (a : Option Addr) (ss : List ByteArray) (cap : Nat) (id : ByteArray) (w : World) (hs : StrsAt w a ss) (hl : ss.length ≤ 1048576) (hid : id.size ≤ maxLen) :
    Calls Try.prog 7 #[.slice a ss.length cap, .string id] w fun e w' => ∃ b : Bool, e = .returned (.bool b) ∧ Below w.heap.size w w' := by
  unfold maxLen at hid
  have hm : Mtr w.heap.size (w.alloc (.cells #[.int .i64 0, .bool false] 42)) := ⟨0, false, by show (w.heap.push _)[w.heap.size]? = _; simp, by omega, by omega⟩
  have hb0 : Below w.heap.size w (w.alloc (.cells #[.int .i64 0, .bool false] 42)) := (Below.refl _ _).alloc (Nat.le_refl _) _
  go_enter Try.func7, Try.ntmps7
  go_wp2_with (go_at_call 16; refine (add_any w.heap.size _ _ hm (by omega) (by omega)).mono ?_; rintro e w1 ⟨rfl, hst⟩)
  have hs1 : StrsAt w1 a ss := hs.below (hb0.trans hst.2.1) (Nat.le_refl _)
  have hlo : ∀ b off, a = some ⟨b, off, none⟩ → 0 < ss.length → b < w.heap.size := fun b off e hp => by
    obtain ⟨b', off', e', h1, _⟩ := hs 0 hp
    rw [e] at e'; cases e'; exact h1
  refine (addStrings_any w.heap.size a ss cap w1 hst.1 hs1 hlo hl).mono ?_
  rintro e w2 ⟨rfl, hst2⟩
  obtain ⟨u, o, hh, h0, h1⟩ := hst2.1
  have c1 := two_cell1 hh
  have hb2 := (hb0.trans hst.2.1).trans hst2.2.1
  clear hh h0 h1 hs hs1 hlo
  go_wp2
  go_ret
  exact ⟨_, rfl, hb2⟩

/-- 'It answers; nothing turns; a yes bounds the length'. -/
def BPost (n : Nat) (w : World) (e : Ending) (w' : World) : Prop := ∃ b : Bool, e = .returned (.bool b) ∧ w' = w ∧ (b = true → n ≤ 1048576)

set_option maxHeartbeats 1000000 in
/-- zzBytes of the first law: it answers; a yes bounds the slice's length. -/
theorem bytes6_any (a : Option Addr) (ss : List ByteArray) (cap : Nat) (id : ByteArray) (k : Int) (w : World) (hs : StrsAt w a ss) (hl : ss.length ≤ maxLen) (hid : id.size ≤ maxLen) :
    Calls Try.prog 6 #[.slice a ss.length cap, .string id, .int .i64 k] w (BPost ss.length w) := by
  unfold maxLen at hid hl
  by_cases hbig : ss.length ≤ 1048576
  · have hbd : decide ((1048576 : Int) < (ss.length : Int)) = false := by simp; omega
    go_enter Try.func6, Try.ntmps6
    go_wp2
    go_loop [7, 8] (fun t i => ∃ (k : Nat) (n : Int), k ≤ ss.length ∧ i = .int .i64 k ∧ t = .int .i64 n ∧ 0 ≤ n ∧ n ≤ 1048576) (fun _ i => ss.length - (intOf i).toNat)
    case atStart => exact ⟨0, ss.length, Nat.zero_le _, rfl, rfl, by omega, by omega⟩
    case round =>
      obtain ⟨k, n, hk, rfl, rfl, hn0, hn1⟩ := hrel
      by_cases hlt : k < ss.length
      · obtain ⟨b, off, rfl, hb, hc, hz⟩ := hs k hlt
        generalize ss.getD k ByteArray.empty = s at *
        unfold maxLen at hz
        by_cases h1 : (1048576 : Int) < (s.size : Int)
        · go_wp2
          go_ret
          exact ⟨_, rfl, rfl, fun _ => hbig⟩
        · by_cases h2 : 1048576 < n + (s.size : Int)
          · go_wp2
            go_ret
            exact ⟨_, rfl, rfl, fun _ => hbig⟩
          · go_wp2
            go_round
            case rel => exact ⟨k + 1, _, by omega, by go_num, rfl, by omega, by omega⟩
            case measure => simp [intOf]; omega
      · go_wp2
        all_goals
          go_ret
          exact ⟨_, rfl, rfl, fun _ => hbig⟩
  · have h1 : (1048576 : Int) < (ss.length : Int) := by omega
    go_enter Try.func6, Try.ntmps6
    go_wp2
    go_ret
    exact ⟨false, rfl, rfl, fun h => by cases h⟩
end Go.Proofs.Qxb6616144a
