import Derived.Test.Qxb6616144aSets
import Derived.Deep.RegionHeld3
import Derived.BigRegion
import Derived.Lib.SliceRun
import Derived.WalkSpells
namespace Go.Proofs.Qxb6616144a
open Go.RowKit

/-! ### Cells laid one behind the other -/
def putA (c : Array Value) (o : Nat) : List Value → Array Value
  | [] => c
  | v :: vs => putA (c.setIfInBounds o v) (o + 1) vs
def putW (w : World) (g o : Nat) : List Value → World
  | [] => w
  | v :: vs => putW (w.setCell ⟨g, o, none⟩ v) g (o + 1) vs
theorem putA_size (vs : List Value) : ∀ (c : Array Value) (o : Nat), (putA c o vs).size = c.size := by
  induction vs with
  | nil => intro c o; rfl
  | cons v vs ih => intro c o; simp [putA, ih]
theorem putA_out (vs : List Value) : ∀ (c : Array Value) (o p : Nat), p < o ∨ o + vs.length ≤ p → (putA c o vs)[p]? = c[p]? := by
  induction vs with
  | nil => intro c o p _; rfl
  | cons v vs ih =>
    intro c o p hp
    simp only [List.length_cons] at hp
    rw [putA, ih _ _ _ (by omega), Array.getElem?_setIfInBounds, if_neg (by omega)]
theorem putA_in (vs : List Value) : ∀ (c : Array Value) (o j : Nat), o + vs.length ≤ c.size → j < vs.length → (putA c o vs)[o + j]? = vs[j]? := by
  induction vs with
  | nil => intro c o j _ hj; simp at hj
  | cons v vs ih =>
    intro c o j hc hj
    simp only [List.length_cons] at hc hj
    cases j with
    | zero => rw [putA, putA_out _ _ _ _ (by omega), Array.getElem?_setIfInBounds, if_pos (Nat.add_zero o).symm, if_pos (by omega)]; rfl
    | succ j => rw [putA, show o + (j + 1) = (o + 1) + j by omega, ih _ _ _ (by simpa using by omega) (by omega)]; rfl
theorem putW_block (vs : List Value) : ∀ {w : World} {g : Nat} {c : Array Value} {t : TypeId} (o : Nat), w.heap[g]? = some (.cells c t (0, 0)) → (putW w g o vs).heap[g]? = some (.cells (putA c o vs) t (0, 0)) := by
  induction vs with
  | nil => intro w g c t o h; exact h
  | cons v vs ih => intro w g c t o h; exact ih (o + 1) (cells_setCell h o v)
theorem putW_below (vs : List Value) : ∀ {B g : Nat} {w0 w : World} (o : Nat), Below B w0 w → B ≤ g → Below B w0 (putW w g o vs) := by
  induction vs with
  | nil => intro B g w0 w o h _; exact h
  | cons v vs ih => intro B g w0 w o h hg; exact ih (o + 1) (h.setCell (p := ⟨g, o, none⟩) hg v) hg
theorem putW_size (vs : List Value) : ∀ {w : World} {g : Nat} (o : Nat), (putW w g o vs).heap.size = w.heap.size := by
  induction vs with
  | nil => intro w g o; rfl
  | cons v vs ih => intro w g o; rw [putW, ih]; simp [World.setCell]
theorem cell_row (w : World) (g : Nat) (c : Array Value) (t : TypeId) (h : w.heap[g]? = some (.cells c t (0, 0))) (j : Nat) : w.cell? ⟨g, j, none⟩ = c[j]? := by simp [World.cell?, h]

/-- A row of n elements of s cells, k of them laid. -/
def GFill (t : TypeId) (s G k n : Nat) (f : Nat → List Value) (w : World) : Prop :=
  ∃ cur : Array Value, w.heap[G]? = some (.cells cur t (0, 0)) ∧ cur.size = n * s ∧ ∀ i, i < k → ∀ j u, (f i)[j]? = some u → cur[i * s + j]? = some u
section
variable {t : TypeId} {s G k n : Nat} {f : Nat → List Value} {w : World}
theorem GFill.cells (h : GFill t s G k n f w) (hk : k < n) (j : Nat) (hj : j < s) : ∃ v, w.cell? ⟨G, k * s + j, none⟩ = some v := by
  obtain ⟨cur, h1, h2, _⟩ := h
  have : k * s + j < cur.size := by
    have := Nat.mul_le_mul_right s (Nat.succ_le_of_lt hk)
    rw [Nat.succ_mul] at this
    omega
  exact ⟨cur[k * s + j], by simp [World.cell?, h1, this]⟩
theorem GFill.free (h : GFill t s G k n f w) (j : Nat) : w.frozen? ⟨G, j, none⟩ = false := by
  obtain ⟨cur, h1, _⟩ := h
  exact cells_free h1 j
theorem GFill.lt (h : GFill t s G k n f w) : G < w.heap.size := by
  obtain ⟨cur, h1, _⟩ := h
  exact lt_of_block h1
theorem GFill.step {vs : List Value} (h : GFill t s G k n f w) (hk : k < n) (he : f k = vs) (hs : ∀ i, (f i).length = s) : GFill t s G (k + 1) n f (putW w G (k * s) vs) := by
  obtain ⟨cur, h1, h2, h3⟩ := h
  have hv : vs.length = s := by rw [← he]; exact hs k
  have hks := Nat.mul_le_mul_right s (Nat.succ_le_of_lt hk)
  rw [Nat.succ_mul] at hks
  refine ⟨_, putW_block _ _ h1, by rw [putA_size]; exact h2, fun i hi j u hj => ?_⟩
  have hjs : j < s := by
    rcases Nat.lt_or_ge j s with h | h
    · exact h
    · rw [List.getElem?_eq_none (by rw [hs]; exact h)] at hj; cases hj
  by_cases hik : i < k
  · have := Nat.mul_le_mul_right s (Nat.succ_le_of_lt hik)
    rw [Nat.succ_mul] at this
    rw [putA_out _ _ _ _ (by omega)]
    exact h3 i hik j u hj
  · obtain rfl : i = k := by omega
    rw [he] at hj
    rw [putA_in _ _ _ _ (by omega) (by omega)]
    exact hj
theorem gfill0 {xs : List Value} (h : w.ownsRow G t s (.slice (some ⟨G, 0, none⟩) n n) n xs) : GFill t s G 0 n f w := by
  obtain ⟨_, h2⟩ := h
  rcases h2 with ⟨h2, _⟩ | ⟨g', cap, cur, hv, hg, hh, _, _, hs, _⟩
  · cases h2
  · cases hv
    exact ⟨cur, hh, hs, fun i hi => by omega⟩
end

/-- Rules at or beyond block lo. -/
def RlsIn (lo : Nat) (w : World) (a : Option Addr) (rs : List Rl) : Prop :=
  ∀ i, i < rs.length → ∃ b off, a = some ⟨b, off, none⟩ ∧ lo ≤ b ∧ b < w.heap.size ∧ ((rs.getD i rl0).entity.size ≤ maxLen ∧ (rs.getD i rl0).event.size ≤ maxLen ∧ (rs.getD i rl0).requires.size ≤ maxLen) ∧ ∀ j u, (rlv (rs.getD i rl0))[j]? = some u → w.cell? ⟨b, off + i * 4 + j, none⟩ = some u
theorem RlsIn.at {lo : Nat} {w : World} {a : Option Addr} {rs : List Rl} (h : RlsIn lo w a rs) : RlsAt w.heap.size w a rs := fun i hi => by
  obtain ⟨b, off, e, _, h2, hz, hc⟩ := h i hi
  exact ⟨b, off, e, h2, hz, hc⟩
theorem RlsIn.lower {lo lo' : Nat} {w : World} {a : Option Addr} {rs : List Rl} (h : RlsIn lo w a rs) (k : lo' ≤ lo) : RlsIn lo' w a rs := fun i hi => by
  obtain ⟨b, off, e, h1, h2, hz, hc⟩ := h i hi
  exact ⟨b, off, e, by omega, h2, hz, hc⟩
/-- Whatever keeps the cells from lo on keeps them. -/
theorem RlsIn.keep {lo : Nat} {w w' : World} {a : Option Addr} {rs : List Rl} (h : RlsIn lo w a rs) (hs : w.heap.size ≤ w'.heap.size) (k : ∀ b j v, lo ≤ b → w.cell? ⟨b, j, none⟩ = some v → w'.cell? ⟨b, j, none⟩ = some v) : RlsIn lo w' a rs := fun i hi => by
  obtain ⟨b, off, e, h1, h2, hz, hc⟩ := h i hi
  exact ⟨b, off, e, h1, by omega, hz, fun j u hj => k b _ u h1 (hc j u hj)⟩

theorem info112 : (Try.prog.info? 112).map (fun i => (i.zero, i.size, i.bytes)) = some (some (.agg (rlv rl0).toArray), 4, 56) := by kernel_rfl
theorem info51 : (Try.prog.info? 51).map (fun i => (i.zero, i.size, i.bytes)) = some (some (.agg (evv ev0).toArray), 2, 32) := by kernel_rfl

def RPost (rs : List Rl) (w : World) (e : Ending) (w' : World) : Prop := ∃ a' c', e = .returned (.slice a' rs.length c') ∧ RlsIn w.heap.size w' a' rs ∧ Below w.heap.size w w'

set_option maxRecDepth 100000 in
set_option maxHeartbeats 4000000 in
theorem rules_any (a : Option Addr) (rs : List Rl) (c : Nat) (w : World) (ha : a = none → rs = [] ∧ c = 0) (hs : RlsAt w.heap.size w a rs) (hl : rs.length ≤ 1048576) :
    Calls Try.prog 22 #[.slice a rs.length c] w (RPost rs w) := by
  obtain ⟨i0, hi, hz0, hz1, hz2⟩ := info_parts info112
  cases a with
  | none =>
    obtain ⟨rfl, rfl⟩ := ha rfl
    have hnil := fun (w : World) => Lib.run_eql_slice_nil (P := Try.prog) w 72 76 none 0 0 0 0 Try.underlying72
    go_enter Try.func22, Try.ntmps22
    go_wp2
    go_ret
    exact ⟨none, 0, rfl, fun i hi => by simp at hi, Below.refl _ _⟩
  | some ad =>
    have hnil := fun (w : World) => Lib.run_eql_slice_nil (P := Try.prog) w 72 76 (some ad) rs.length c 0 0 Try.underlying72
    go_enter Try.func22, Try.ntmps22
    go_wp2_with (refine wpList_make_full _ rfl _ _ 101 rfl w.heap.size 112 i0 _ 4 Try.underlying101 hi hz0 hz1 .i64 .i64 _ _ rs.length rfl rfl rfl rfl (by rw [hz2]; omega) (by unfold maxLen; omega) (Nat.le_refl _) ?_; intro w5 hown5 hgr5; have hf5 := gfill0 (f := fun i => rlv (rs.getD i rl0)) hown5; have hb5 : Below w.heap.size w w5 := (Below.refl _ _).grown hgr5 (Nat.le_refl _) (fun k h => by cases h); clear hown5 hgr5)
    go_loopw [4] (fun i wr => ∃ k : Nat, k ≤ rs.length ∧ i = .int .i64 k ∧ GFill 112 4 w.heap.size k rs.length (fun i => rlv (rs.getD i rl0)) wr ∧ Below w.heap.size w wr) (fun i _ => rs.length - (intOf i).toNat)
    case atStart => exact ⟨0, Nat.zero_le _, rfl, hf5, hb5⟩
    case round =>
      obtain ⟨k, hk, rfl, hfr, hbr⟩ := hrel
      by_cases hlt : k < rs.length
      · obtain ⟨b, off, e, hbl, ⟨g0, g1, g2⟩, hcs⟩ := (hs.keep hbr) k hlt
        cases e
        generalize hE : rs.getD k rl0 = M at *
        obtain ⟨mid, mad, mc, mn⟩ := M
        have q0 := hcs 0 _ rfl
        have q1 := hcs 1 _ rfl
        have q2 := hcs 2 _ rfl
        have q3 := hcs 3 _ rfl
        simp only [Nat.add_zero] at q0
        simp only at q0 q1 q2 q3
        obtain ⟨z0, y0⟩ := hfr.cells hlt 0 (by omega)
        obtain ⟨z1, y1⟩ := hfr.cells hlt 1 (by omega)
        obtain ⟨z2, y2⟩ := hfr.cells hlt 2 (by omega)
        obtain ⟨z3, y3⟩ := hfr.cells hlt 3 (by omega)
        simp only [Nat.add_zero] at y0
        have hfz := hfr.free
        have R1 := hfr.step hlt (show rlv (rs.getD k rl0) = _ by rw [hE]) (fun i => rfl)
        have R2 := putW_below (rlv ⟨mid, mad, mc, mn⟩) (k * 4) hbr (Nat.le_refl w.heap.size)
        have hlen : (k : Int) < rs.length := by omega
        have hk0 : (0 : Int) ≤ k := by omega
        clear hE hcs hfr
        go_wp2
        go_region
        go_wp2
        go_roundw
        case rel => exact ⟨k + 1, by omega, by go_num, R1, R2.drew⟩
        case measure => simp [intOf]; omega
      · obtain rfl : k = rs.length := by omega
        go_wp2
        go_ret
        refine ⟨_, _, rfl, ?_, hbr⟩
        intro i hi
        obtain ⟨_, _, _, _, hzz, _⟩ := hs i hi
        have hlt' := hfr.lt
        obtain ⟨cur, h1, h2, h3⟩ := hfr
        refine ⟨w.heap.size, 0, rfl, Nat.le_refl _, hlt', hzz, fun j u hj => ?_⟩
        rw [cell_row _ _ _ _ h1, Nat.zero_add]
        exact h3 i hi j u hj
end Go.Proofs.Qxb6616144a
