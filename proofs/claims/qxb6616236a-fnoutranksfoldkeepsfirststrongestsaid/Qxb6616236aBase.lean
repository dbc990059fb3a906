import Derived.Test.Qxb6616236aRows
import Derived.WalkKit
import Derived.WalkSmall
import Derived.Below
import Derived.Laws.Rows
namespace Go.Proofs.Qxb6616236a
open Go.RowKit

/-- A decision, cell by cell. -/
def dv (a : Int) (p m : ByteArray) : Array Value := #[.int .i64 a, .string p, .string m]

/-- Is the name empty, as the model compares strings? -/
def noName (p : ByteArray) : Bool := p.toList.isEmpty

/-- The plain law of 'outranks'. -/
def orank (a : Int) (p : ByteArray) (b : Int) (q : ByteArray) : Bool := decide (b < a) || (decide (a = b) && noName q && !noName p)

def MkPost (a : Int) (p m : ByteArray) (w : World) (e : Ending) (w' : World) : Prop := e = .returned (.agg (dv a p m)) ∧ Below w.heap.size w w'
def OrPost (b : Bool) (w : World) (e : Ending) (w' : World) : Prop := e = .returned (.bool b) ∧ Below w.heap.size w w'

theorem mk_any (a : Int) (p m : ByteArray) (w : World) : Calls Try.prog 6 #[.int .i64 a, .string p, .string m] w (MkPost a p m w) := by
  go_enter Try.func6, Try.ntmps6
  go_wp2
  exact bodyPost_ret (results_cell_row Try.results6 _ _ w.heap.size 25 (dv a p m) _ _ rfl (heap_alloc_new _ _) Try.underlying25 rfl (by kernel_rfl)) rfl ⟨rfl, (Below.refl _ _).alloc (Nat.le_refl _) _⟩

theorem outranks9 (a : Int) (p m : ByteArray) (b : Int) (q n : ByteArray) (w : World) : Calls Try.prog 9 #[.agg (dv a p m), .agg (dv b q n)] w (OrPost (orank a p b q) w) := by
  unfold dv
  have two : ∀ x y, Below w.heap.size w ((w.alloc x).alloc y) := fun x y => ((Below.refl _ _).alloc (Nat.le_refl _) _).alloc (by simp) _
  generalize ho : orank a p b q = o
  unfold orank noName at ho
  by_cases h1 : b < a
  · have : o = true := by simp [← ho, h1]
    subst this
    clear ho
    go_enter Try.func9, Try.ntmps9
    go_wp2
    go_ret
    exact ⟨rfl, two _ _⟩
  by_cases h2 : a = b
  · subst h2
    by_cases h3 : q.toList = []
    · have : o = !p.toList.isEmpty := by simp [← ho, h3]
      subst this
      clear ho
      go_enter Try.func9, Try.ntmps9
      go_wp2
      go_ret
      exact ⟨rfl, two _ _⟩
    · have : o = false := by simp [← ho, h3]
      subst this
      clear ho
      go_enter Try.func9, Try.ntmps9
      go_wp2
      go_ret
      exact ⟨rfl, two _ _⟩
  · have : o = false := by simp [← ho, h1, h2]
    subst this
    clear ho
    go_enter Try.func9, Try.ntmps9
    go_wp2
    go_ret
    exact ⟨rfl, two _ _⟩

theorem outranks7 (a : Int) (p m : ByteArray) (b : Int) (q n : ByteArray) (w : World) : Calls Try.prog 7 #[.agg (dv a p m), .agg (dv b q n)] w (OrPost (orank a p b q) w) := by
  have K := fun w => outranks9 a p m b q n w
  unfold dv at K ⊢
  go_enter Try.func7, Try.ntmps7
  go_wp2_with fail
  refine (K _).mono ?_
  rintro e w' ⟨rfl, h⟩
  go_wp2
  go_ret
  refine ⟨rfl, (((Below.refl _ _).alloc (Nat.le_refl _) _).alloc (by simp) _).trans (h.mono (by simp; omega))⟩
end Go.Proofs.Qxb6616236a
