import Derived.Test.Qxb6616144aBy
import Derived.OwnWalk
import Derived.WalkSpells
namespace Go.Proofs.Qxb6616144a
open Go.RowKit

theorem Try.info33 : (Try.prog.info? 33).map (fun i => (i.zero, i.size, i.bytes)) = some (some (.agg (apv ⟨#[]⟩).toArray), 10, 128) := by kernel_rfl

/-- The row that approvalsOf fills: the first k Approvals are laid. -/
def Filled (g k : Nat) (ss : List ByteArray) (w : World) : Prop :=
  ∃ cur : Array Value, w.heap[g]? = some (.cells cur 33 (0, 0)) ∧ cur.size = ss.length * 10 ∧ ∀ i, i < k → ∀ j u, (apv (ss.getD i ByteArray.empty))[j]? = some u → cur[i * 10 + j]? = some u

theorem Filled.cells {g k : Nat} {ss : List ByteArray} {w : World} (h : Filled g k ss w) (hk : k < ss.length) (j : Nat) (hj : j < 10) : ∃ v, w.cell? ⟨g, k * 10 + j, none⟩ = some v := by
  obtain ⟨cur, h1, h2, _⟩ := h
  have : k * 10 + j < cur.size := by omega
  exact ⟨cur[k * 10 + j], by simp [World.cell?, h1, this]⟩
theorem Filled.free {g k : Nat} {ss : List ByteArray} {w : World} (h : Filled g k ss w) (j : Nat) : w.frozen? ⟨g, j, none⟩ = false := by
  obtain ⟨cur, h1, _⟩ := h
  exact cells_free h1 j

theorem filled0 {g : Nat} {ss : List ByteArray} {w : World} {xs : List Value} (h : w.ownsRow g 33 10 (.slice (some ⟨g, 0, none⟩) ss.length ss.length) ss.length xs) : Filled g 0 ss w := by
  obtain ⟨_, h2⟩ := h
  rcases h2 with ⟨h2, _⟩ | ⟨g', cap, cur, hv, hg, hh, _, _, hs, _⟩
  · cases h2
  · cases hv
    exact ⟨cur, hh, hs, fun i hi => by omega⟩

theorem Filled.at {g : Nat} {ss : List ByteArray} {w : World} (h : Filled g ss.length ss w) : ApsAt w (some ⟨g, 0, none⟩) ss := by
  intro i hi
  obtain ⟨cur, h1, _, h3⟩ := h
  exact ⟨g, 0, rfl, lt_of_block h1, fun j u hj => by
    have := h3 i hi j u hj
    simp [World.cell?, h1]
    exact this⟩

/-- Cells laid one behind the other, from o on, into an array; into a block. -/
def putA (c : Array Value) (o : Nat) : List Value → Array Value
  | [] => c
  | v :: vs => putA (c.setIfInBounds o v) (o + 1) vs
def putW (w : World) (g o : Nat) : List Value → World
  | [] => w
  | v :: vs => putW (w.setCell ⟨g, o, none⟩ v) g (o + 1) vs

theorem putA_size (vs : List Value) : ∀ (c : Array Value) (o : Nat), (putA c o vs).size = c.size := by
  induction vs with
  | nil => intro c o; rfl
  | cons v vs ih => intro c o; simp [putA, ih]
theorem putA_out (vs : List Value) : ∀ (c : Array Value) (o p : Nat), p < o ∨ o + vs.length ≤ p → (putA c o vs)[p]? = c[p]? := by
  induction vs with
  | nil => intro c o p _; rfl
  | cons v vs ih =>
    intro c o p hp
    simp only [List.length_cons] at hp
    rw [putA, ih _ _ _ (by omega), Array.getElem?_setIfInBounds, if_neg (by omega)]
theorem putA_in (vs : List Value) : ∀ (c : Array Value) (o j : Nat), o + vs.length ≤ c.size → j < vs.length → (putA c o vs)[o + j]? = vs[j]? := by
  induction vs with
  | nil => intro c o j _ hj; simp at hj
  | cons v vs ih =>
    intro c o j hc hj
    simp only [List.length_cons] at hc hj
    cases j with
    | zero => rw [putA, putA_out _ _ _ _ (by omega), Array.getElem?_setIfInBounds, if_pos (Nat.add_zero o).symm, if_pos (by omega)]; rfl
    | succ j => rw [putA, show o + (j + 1) = (o + 1) + j by omega, ih _ _ _ (by simpa using by omega) (by omega)]; rfl
theorem putW_block (vs : List Value) : ∀ {w : World} {g : Nat} {c : Array Value} {t : TypeId} (o : Nat), w.heap[g]? = some (.cells c t (0, 0)) → (putW w g o vs).heap[g]? = some (.cells (putA c o vs) t (0, 0)) := by
  induction vs with
  | nil => intro w g c t o h; exact h
  | cons v vs ih => intro w g c t o h; exact ih (o + 1) (cells_setCell h o v)
theorem putW_below (vs : List Value) : ∀ {B g : Nat} {w0 w : World} (o : Nat), Below B w0 w → B ≤ g → Below B w0 (putW w g o vs) := by
  induction vs with
  | nil => intro B g w0 w o h _; exact h
  | cons v vs ih => intro B g w0 w o h hg; exact ih (o + 1) (h.setCell (p := ⟨g, o, none⟩) hg v) hg

theorem Filled.step {g k : Nat} {ss : List ByteArray} {w : World} {s : ByteArray} (h : Filled g k ss w) (hk : k < ss.length) (hs : ss.getD k ByteArray.empty = s) : Filled g (k + 1) ss (putW w g (k * 10) (apv s)) := by
  obtain ⟨cur, h1, h2, h3⟩ := h
  refine ⟨_, putW_block _ _ h1, by rw [putA_size]; exact h2, ?_⟩
  intro i hi j u hj
  have hl : ∀ s, (apv s).length = 10 := fun _ => rfl
  have hj10 : j < 10 := by
    rcases Nat.lt_or_ge j 10 with h | h
    · exact h
    · rw [List.getElem?_eq_none (by rw [hl]; exact h)] at hj; cases hj
  by_cases hik : i < k
  · rw [putA_out _ _ _ _ (by rw [hl]; omega)]
    exact h3 i hik j u hj
  · obtain rfl : i = k := by omega
    rw [hs] at hj
    rw [putA_in _ _ _ _ (by rw [hl]; omega) (by rw [hl]; exact hj10)]
    exact hj

/-- 'A slice of these Approvals; nothing that was there turns'. -/
def OPost (ss : List ByteArray) (w : World) (e : Ending) (w' : World) : Prop := ∃ (a : Option Addr) (c : Nat), e = .returned (.slice a ss.length c) ∧ ApsAt w' a ss ∧ Below w.heap.size w w'

set_option maxHeartbeats 1000000 in
theorem of_some (ad : Addr) (ss : List ByteArray) (cap : Nat) (w : World) (hs : StrsAt w (some ad) ss) (hl : ss.length ≤ 1048576) :
    Calls Try.prog 9 #[.slice (some ad) ss.length cap] w (OPost ss w) := by
  obtain ⟨i0, hi, hz0, hz1, hz2⟩ := info_parts Try.info33
  have hnil := fun (w : World) => Lib.run_eql_slice_nil (P := Try.prog) w 22 9 (some ad) ss.length cap 0 0 Try.underlying22
  go_enter Try.func9, Try.ntmps9
  go_wp2_with (refine wpList_make_full _ rfl _ _ 25 rfl w.heap.size 33 i0 _ 10 Try.underlying25 hi hz0 hz1 .i64 .i64 _ _ ss.length rfl rfl rfl rfl (by rw [hz2]; omega) (by unfold maxLen; omega) (Nat.le_refl _) ?_; intro w1 hown hgr)
  have hf := filled0 hown
  have hb0 : Below w.heap.size w w1 := (Below.refl _ _).grown hgr (Nat.le_refl _) (fun k h => by cases h)
  clear hown hgr hi hz0 hz1 hz2 hnil
  go_loopw [4] (fun i wr => ∃ k : Nat, k ≤ ss.length ∧ i = .int .i64 k ∧ Filled w.heap.size k ss wr ∧ Below w.heap.size w wr) (fun i _ => ss.length - (intOf i).toNat)
  case atStart => exact ⟨0, Nat.zero_le _, rfl, hf, hb0⟩
  case round =>
    obtain ⟨k, hk, rfl, hfr, hbr⟩ := hrel
    by_cases hlt : k < ss.length
    · obtain ⟨b, off, e, hb, hc, hz⟩ := hs k hlt
      cases e
      have hcx : wr.cell? ⟨b, off + k, none⟩ = some (.string (ss.getD k ByteArray.empty)) := (hbr.cell (p := ⟨b, off + k, none⟩) hb).trans hc
      have HF : ∀ s, ss.getD k ByteArray.empty = s → Filled w.heap.size (k + 1) ss (putW wr w.heap.size (k * 10) (apv s)) := fun s => hfr.step hlt
      generalize hsx : ss.getD k ByteArray.empty = s at *
      have R1 := HF s rfl
      have R2 : Below w.heap.size w (putW wr w.heap.size (k * 10) (apv s)) := putW_below _ _ hbr (Nat.le_refl _)
      clear HF hsx hc
      obtain ⟨v0, d0⟩ := hfr.cells hlt 0 (by omega)
      obtain ⟨v1, d1⟩ := hfr.cells hlt 1 (by omega)
      obtain ⟨v2, d2⟩ := hfr.cells hlt 2 (by omega)
      obtain ⟨v3, d3⟩ := hfr.cells hlt 3 (by omega)
      obtain ⟨v4, d4⟩ := hfr.cells hlt 4 (by omega)
      obtain ⟨v5, d5⟩ := hfr.cells hlt 5 (by omega)
      obtain ⟨v6, d6⟩ := hfr.cells hlt 6 (by omega)
      obtain ⟨v7, d7⟩ := hfr.cells hlt 7 (by omega)
      obtain ⟨v8, d8⟩ := hfr.cells hlt 8 (by omega)
      obtain ⟨v9, d9⟩ := hfr.cells hlt 9 (by omega)
      have hfz := hfr.free
      simp only [Nat.add_zero] at d0
      go_wp2
      go_roundw
      case rel => exact ⟨k + 1, by omega, by go_num, R1, R2⟩
      case measure => simp [intOf]; omega
    · go_wp2
      go_ret
      have : k = ss.length := by omega
      subst this
      exact ⟨_, _, rfl, hfr.at, hbr⟩

theorem of_nil (w : World) : Calls Try.prog 9 #[.slice none 0 0] w (OPost [] w) := by
  have hnil := fun (w : World) => Lib.run_eql_slice_nil (P := Try.prog) w 22 9 none 0 0 0 0 Try.underlying22
  go_enter Try.func9, Try.ntmps9
  go_wp2
  go_ret
  exact ⟨none, 0, rfl, fun i hi => by simp at hi, Below.refl _ _⟩

/-- approvalsOf: 'nil means length 0 and capacity 0'. -/
theorem of_any (a : Option Addr) (ss : List ByteArray) (cap : Nat) (w : World) (ha : a = none → ss = [] ∧ cap = 0) (hs : StrsAt w a ss) (hl : ss.length ≤ 1048576) :
    Calls Try.prog 9 #[.slice a ss.length cap] w (OPost ss w) := by
  cases a with
  | none => obtain ⟨rfl, rfl⟩ := ha rfl; exact of_nil w
  | some ad => exact of_some ad ss cap w hs hl
end Go.Proofs.Qxb6616144a
