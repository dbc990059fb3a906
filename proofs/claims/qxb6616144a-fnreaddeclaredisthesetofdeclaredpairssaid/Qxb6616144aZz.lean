import Derived.Test.Qxb6616144aRead
namespace Go.Proofs.Qxb6616144a
open Go.RowKit Go.Maps Go.Sort Go.Shelf

/-- readDeclared, as a plain contract. -/
theorem readDeclared_any (X Q n₀ : Nat) (w : World) (ae : Option Addr) (ce : Nat) (es : List Ev) (m1 m2 : Option Nat) (G1 G2 : List UInt8 → Option (List Rl)) (v0 : Value)
    (hn0 : n₀ ≤ X) (hX : X < w.heap.size) (hQ : Q < n₀) (hx1 : w.cell? ⟨X, 1, none⟩ = some v0) (hxf : w.frozen? ⟨X, 1, none⟩ = false)
    (hc1 : w.cell? ⟨Q, 5, none⟩ = some (.map m1)) (hc2 : w.cell? ⟨Q, 6, none⟩ = some (.map m2)) (hc3 : w.cell? ⟨Q, 7, none⟩ = some (.slice ae es.length ce)) (hE : EvsAt n₀ w ae es) (hEl : es.length ≤ 1048576) (hM1 : RMap Sh4 n₀ w m1 G1) (hM2 : RMap Sh2 n₀ w m2 G2) :
    Calls Try.prog 21 #[.pointer (some ⟨X, 0, none⟩), .pointer (some ⟨Q, 0, none⟩)] w (DecPost n₀ X es G1 G2 w) :=
  callsIn_wide.1 (readDeclared_in 3 (Nat.le_refl _) X Q n₀ w ae ce es m1 m2 G1 G2 v0 hn0 hX hQ hx1 hxf hc1 hc2 hc3 hE hEl hM1 hM2)

/-- A policy at block Q, below n₀. -/
def Pol (n₀ : Nat) (w : World) (Q : Nat) (es : List Ev) (G1 G2 : List UInt8 → Option (List Rl)) : Prop :=
  ∃ ae ce m1 m2, Q < n₀ ∧ w.cell? ⟨Q, 5, none⟩ = some (.map m1) ∧ w.cell? ⟨Q, 6, none⟩ = some (.map m2) ∧ w.cell? ⟨Q, 7, none⟩ = some (.slice ae es.length ce) ∧ EvsAt n₀ w ae es ∧ RMap Sh4 n₀ w m1 G1 ∧ RMap Sh2 n₀ w m2 G2
theorem Pol.keep {n₀ : Nat} {w w' : World} {Q : Nat} {es : List Ev} {G1 G2 : List UInt8 → Option (List Rl)} (h : Pol n₀ w Q es G1 G2) (k : Below n₀ w w') : Pol n₀ w' Q es G1 G2 := by
  obtain ⟨ae, ce, m1, m2, h1, h2, h3, h4, h5, h6, h7⟩ := h
  exact ⟨ae, ce, m1, m2, h1, (k.cell (p := ⟨Q, 5, none⟩) h1).trans h2, (k.cell (p := ⟨Q, 6, none⟩) h1).trans h3, (k.cell (p := ⟨Q, 7, none⟩) h1).trans h4, h5.keep k, h6.keep k, h7.keep k⟩

/-- What ZZreadDeclared hands back: a new map with the declared pairs, and no others. -/
def GotPost (es : List Ev) (G1 G2 : List UInt8 → Option (List Rl)) (w : World) (e : Ending) (w' : World) : Prop :=
  ∃ m nn acc, e = .returned (.map (some m)) ∧ Below w.heap.size w w' ∧ w'.ownsMap Try.prog 51 (plainElem Try.prog 4) m nn (setP acc) ∧
    ∀ p, p ∈ acc ↔ p ∈ evPairs es ∨ ∃ k rl, (G1 k = some rl ∨ G2 k = some rl) ∧ p ∈ pairs rl

set_option maxRecDepth 100000 in
set_option maxHeartbeats 1000000 in
theorem zz_any (Q : Nat) (w : World) (es : List Ev) (G1 G2 : List UInt8 → Option (List Rl)) (hP : Pol w.heap.size w Q es G1 G2) (hEl : es.length ≤ 1048576) :
    Calls Try.prog 13 #[.pointer (some ⟨Q, 0, none⟩)] w (GotPost es G1 G2 w) := by
  go_enter Try.func13, Try.ntmps13
  go_wp2_with fail
  have hb := (Below.refl w.heap.size w).alloc (Nat.le_refl _) (.cells #[.pointer (some ⟨Q, 0, none⟩), .map none, .slice none 0 0, .map none, .slice none 0 0, .map none, .map none, .map none, .map none, .slice none 0 0, .slice none 0 0] 90)
  have hnew := heap_alloc_new w (.cells #[.pointer (some ⟨Q, 0, none⟩), .map none, .slice none 0 0, .map none, .slice none 0 0, .map none, .map none, .map none, .map none, .slice none 0 0, .slice none 0 0] 90)
  obtain ⟨ae, ce, m1, m2, h1, h2, h3, h4, h5, h6, h7⟩ := hP.keep hb
  refine (readDeclared_any w.heap.size Q w.heap.size _ ae ce es m1 m2 G1 G2 (.map none) (Nat.le_refl _) (by simp) h1 (by rw [cell_row _ _ _ _ hnew]; rfl) (cells_free hnew 1) h2 h3 h4 h5 hEl h6 h7).mono ?_
  rintro e w' ⟨rfl, hbw, m, nn, acc, hcx, _, hown, hacc⟩
  clear h2 h3 h4 h5 h6 h7 hnew
  go_wp2
  go_ret
  exact ⟨m, nn, acc, rfl, hb.trans hbw, hown, hacc⟩
end Go.Proofs.Qxb6616144a
