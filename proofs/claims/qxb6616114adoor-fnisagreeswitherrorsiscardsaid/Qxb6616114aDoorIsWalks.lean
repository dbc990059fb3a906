import Derived.Test.Qxb6616114aDoorProg
import Derived.WalkKit
import Derived.LaidEql
import Derived.Stop.Asserts
import Derived.Stop.LaidErr
import Derived.RowKitTokens
import Derived.Below
namespace Go.Proofs.Qxb6616114aDoor
open Go.RowKit

theorem Tryd.comp40 : (Tryd.prog.info? 40).map (·.comparable) = some true := by kernel_rfl
theorem Tryd.size42 : (Tryd.prog.info? 42).map (·.size) = some 1 := by kernel_rfl

/-- 'e.Is(ErrVersionMismatch)', through the thin file: whatever e is. -/
theorem isSentinel (p : Value) (a : Addr) (w : World) (hc : w.cell? ⟨0, 0, none⟩ = some (.iface 40 (.pointer (some a)))) :
    Calls Tryd.prog 6 #[p] w fun e w' => e = .returned (.bool true) ∧ w' = w := by
  obtain ⟨i, hi, hcmp⟩ := Option.map_eq_some_iff.1 Tryd.comp40
  obtain ⟨j, hj, _⟩ := Option.map_eq_some_iff.1 Tryd.size42
  have heq := run_eql_iface_ptr_same (P := Tryd.prog) w a Tryd.underlying32 Tryd.underlying40 hi hcmp hj
  go_enter Tryd.func6, Tryd.ntmps6
  go_wp2
  go_ret
  exact ⟨rfl, rfl⟩

theorem isFresh (p : Value) (s : ByteArray) (a : Addr) (ca : Array Value) (ta : TypeId) (w : World) (hc : w.cell? ⟨0, 0, none⟩ = some (.iface 40 (.pointer (some a)))) (hb : w.heap[a.block]? = some (.cells ca ta (0, 0))) :
    Calls Tryd.prog 8 #[p, .string s] w fun e w' => e = .returned (.bool false) ∧ w' = w.alloc (.cells #[.string s] 42) := by
  obtain ⟨i, hi, hcmp⟩ := Option.map_eq_some_iff.1 Tryd.comp40
  obtain ⟨j, hj, hjs⟩ := Option.map_eq_some_iff.1 Tryd.size42
  have hlt : a.block < w.heap.size := by
    rcases Nat.lt_or_ge a.block w.heap.size with h | h
    · exact h
    · simp [Array.getElem?_eq_none h] at hb
  have hne : (⟨w.heap.size, 0, none⟩ : Addr) ≠ a := fun e => by
    rw [← e] at hlt
    exact Nat.lt_irrefl _ hlt
  have hpos : 0 < w.heap.size := by omega
  have hn0 : (w.alloc (.cells #[.string s] 42)).heap[(⟨w.heap.size, 0, none⟩ : Addr).block]? = some (.cells #[.string s] 42 (0, 0)) := by
    show (w.heap.push _)[w.heap.size]? = _
    simp
  have hn1 : (w.alloc (.cells #[.string s] 42)).heap[a.block]? = some (.cells ca ta (0, 0)) := by
    show (w.heap.push _)[a.block]? = _
    simp only [Array.getElem?_push, Nat.ne_of_lt hlt, if_false]
    exact hb
  have heq := run_eql_iface_ptr_other (P := Tryd.prog) (w.alloc (.cells #[.string s] 42)) Tryd.underlying32 Tryd.underlying40 hi hcmp hj (by rw [hjs]; decide) hne hn0 hn1
  have hc1 : (w.alloc (.cells #[.string s] 42)).cell? ⟨0, 0, none⟩ = some (.iface 40 (.pointer (some a))) := by
    rw [World.cell?_alloc_lt _ _ ⟨0, 0, none⟩ hpos]; exact hc
  clear hn0 hn1
  go_enter Tryd.func8, Tryd.ntmps8
  go_wp2
  go_ret
  exact ⟨rfl, rfl⟩


/-- What the walks know of the listed sentinel: the variable's cell holds a pointer to an errors.errorString; its block is a plain row of cells. -/
def Snt (a : Addr) (ca : Array Value) (ta : TypeId) (w : World) : Prop :=
  w.cell? ⟨0, 0, none⟩ = some (.iface 40 (.pointer (some a))) ∧ w.heap[a.block]? = some (.cells ca ta (0, 0))

theorem Snt.pos {a : Addr} {ca : Array Value} {ta : TypeId} {w : World} (h : Snt a ca ta w) : 0 < w.heap.size := by
  obtain ⟨hc, _⟩ := h
  rcases Nat.eq_zero_or_pos w.heap.size with h0 | h
  · simp [World.cell?, h0] at hc
  · exact h

theorem Snt.alloc {a : Addr} {ca : Array Value} {ta : TypeId} {w : World} (h : Snt a ca ta w) (o : Obj) : Snt a ca ta (w.alloc o) := by
  have hpos := h.pos
  obtain ⟨hc, hb⟩ := h
  refine ⟨by rw [World.cell?_alloc_lt _ _ ⟨0, 0, none⟩ hpos]; exact hc, ?_⟩
  have hlt : a.block < w.heap.size := by
    rcases Nat.lt_or_ge a.block w.heap.size with h | h
    · exact h
    · simp [Array.getElem?_eq_none h] at hb
  show (w.heap.push _)[a.block]? = _
  simp only [Array.getElem?_push, Nat.ne_of_lt hlt, if_false]
  exact hb

theorem isSentinel' (p : Value) {a : Addr} {ca : Array Value} {ta : TypeId} {w : World} (h : Snt a ca ta w) :
    Calls Tryd.prog 6 #[p] w fun e w' => e = .returned (.bool true) ∧ w' = w := isSentinel p a w h.1
theorem isFresh' (p : Value) (s : ByteArray) {a : Addr} {ca : Array Value} {ta : TypeId} {w : World} (h : Snt a ca ta w) :
    Calls Tryd.prog 8 #[p, .string s] w fun e w' => e = .returned (.bool false) ∧ w' = w.alloc (.cells #[.string s] 42) := isFresh p s a ca ta w h.1 h.2

theorem bytes_ok (c1 c2 : Int) (s : ByteArray) (w : World) (hs : s.size ≤ 1048576) :
    Calls Tryd.prog 10 #[.int .u64 c1, .int .u64 c2, .string s] w fun e w' => e = .returned (.bool true) ∧ w' = w := by
  have hs1 : ¬ (1048576 : Int) < (s.size : Int) := by omega
  go_enter Tryd.func10, Tryd.ntmps10
  go_wp2
  go_ret
  exact ⟨rfl, rfl⟩

/-- THE LAW, text no longer than the bound. -/
theorem ignores_short (c1 c2 : Int) (s : ByteArray) (a : Addr) (ca : Array Value) (ta : TypeId) (w : World) (hs : s.size ≤ 1048576) (h : Snt a ca ta w) :
    Calls Tryd.prog 4 #[.int .u64 c1, .int .u64 c2, .string s] w fun e w' => e = .returned (.bool true) ∧ Below w.heap.size w w' := by
  have hs1 : ¬ (1048576 : Int) < (s.size : Int) := by omega
  go_enter Tryd.func4, Tryd.ntmps4
  go_wp2_with (first
    | (go_at_call 10; refine (bytes_ok _ _ _ _ hs).mono ?_; rintro e w' ⟨rfl, rfl⟩)
    | (go_at_call 6; refine (isSentinel' _ (a := a) (ca := ca) (ta := ta) ?_).mono ?_; (repeat (first | exact h | apply Snt.alloc)); rintro e w' ⟨rfl, rfl⟩)
    | (go_at_call 8; refine (isFresh' _ _ (a := a) (ca := ca) (ta := ta) ?_).mono ?_; (repeat (first | exact h | apply Snt.alloc)); rintro e w' ⟨rfl, rfl⟩))
  go_ret
  exact ⟨rfl, by repeat (first | exact Below.refl _ _ | (refine Below.alloc ?_ (by simp <;> omega) _))⟩

theorem ignores_long (c1 c2 : Int) (s : ByteArray) (w : World) (hs : ¬ s.size ≤ 1048576) :
    Calls Tryd.prog 4 #[.int .u64 c1, .int .u64 c2, .string s] w fun e w' => e = .returned (.bool true) ∧ Below w.heap.size w w' := by
  have hs1 : (1048576 : Int) < (s.size : Int) := by omega
  go_enter Tryd.func4, Tryd.ntmps4
  go_wp2
  go_ret
  exact ⟨rfl, Below.refl _ _⟩
end Go.Proofs.Qxb6616114aDoor
