import Derived.Test.Qxb6616236aBase
import Derived.OneCell
namespace Go.Proofs.Qxb6616236a
open Go.RowKit

/-- A slice of strings as the walks see it. -/
def StrsAt (w : World) (a : Option Addr) (ss : List ByteArray) : Prop :=
  ∀ i, i < ss.length → ∃ b off, a = some ⟨b, off, none⟩ ∧ b < w.heap.size ∧ w.cell? ⟨b, off + i, none⟩ = some (.string (ss.getD i ByteArray.empty)) ∧ (ss.getD i ByteArray.empty).size ≤ maxLen
theorem StrsAt.later {w w' : World} {a : Option Addr} {ss : List ByteArray} (h : StrsAt w a ss) (hb : Below w.heap.size w w') : StrsAt w' a ss := by
  intro i hi
  obtain ⟨b, off, rfl, h1, h2, h3⟩ := h i hi
  exact ⟨b, off, rfl, Nat.lt_of_lt_of_le h1 hb.size, by rw [hb.cell (p := ⟨b, off + i, none⟩) h1]; exact h2, h3⟩
/-- A slice of ints. -/
def IntsAt (w : World) (a : Option Addr) (zs : List Int) : Prop :=
  ∀ i, i < zs.length → ∃ b off, a = some ⟨b, off, none⟩ ∧ b < w.heap.size ∧ w.cell? ⟨b, off + i, none⟩ = some (.int .i64 (zs.getD i 0))
theorem IntsAt.later {w w' : World} {a : Option Addr} {zs : List Int} (h : IntsAt w a zs) (hb : Below w.heap.size w w') : IntsAt w' a zs := by
  intro i hi
  obtain ⟨b, off, rfl, h1, h2⟩ := h i hi
  exact ⟨b, off, rfl, Nat.lt_of_lt_of_le h1 hb.size, by rw [hb.cell (p := ⟨b, off + i, none⟩) h1]; exact h2⟩

def B8Post (w : World) (e : Ending) (w' : World) : Prop := ∃ b : Bool, e = .returned (.bool b) ∧ w' = w

set_option maxRecDepth 100000 in
set_option maxHeartbeats 4000000 in
theorem bytes8 (a1 a2 a3 : Option Addr) (zs : List Int) (ps ms : List ByteArray) (c1 c2 c3 : Nat) (w : World) (hp : StrsAt w a2 ps) (hm : StrsAt w a3 ms) (l1 : zs.length ≤ maxLen) (l2 : ps.length ≤ maxLen) (l3 : ms.length ≤ maxLen) :
    Calls Try.prog 8 #[.slice a1 zs.length c1, .slice a2 ps.length c2, .slice a3 ms.length c3] w (B8Post w) := by
  unfold maxLen at l1 l2 l3
  by_cases d1 : 1048576 < zs.length
  · go_enter Try.func8, Try.ntmps8
    go_wp2
    go_ret
    exact ⟨_, rfl, rfl⟩
  by_cases d2 : 1048576 < ps.length
  · go_enter Try.func8, Try.ntmps8
    go_wp2
    go_ret
    exact ⟨_, rfl, rfl⟩
  by_cases d3 : 1048576 < zs.length + ps.length
  · go_enter Try.func8, Try.ntmps8
    go_wp2
    go_ret
    exact ⟨_, rfl, rfl⟩
  go_enter Try.func8, Try.ntmps8
  go_wp2
  go_loop [7, 8] (fun t i => ∃ (k : Nat) (n : Int), k ≤ ps.length ∧ i = .int .i64 k ∧ t = .int .i64 n ∧ 0 ≤ n ∧ n ≤ 1048576) (fun _ i => ps.length - (intOf i).toNat)
  case atStart => exact ⟨0, zs.length + ps.length, Nat.zero_le _, rfl, by simp, by omega, by omega⟩
  case round =>
    obtain ⟨k, n, hk, rfl, rfl, hn0, hn1⟩ := hrel
    by_cases hlt : k < ps.length
    · obtain ⟨b, off, rfl, hb, hc, hz⟩ := hp k hlt
      generalize ps.getD k ByteArray.empty = s at *
      unfold maxLen at hz
      by_cases e1 : 1048576 < s.size
      · go_wp2
        go_ret
        exact ⟨_, rfl, rfl⟩
      by_cases e2 : 1048576 < n + (s.size : Int)
      · go_wp2
        go_ret
        exact ⟨_, rfl, rfl⟩
      go_wp2
      go_round
      case rel => exact ⟨k + 1, _, by omega, by go_num, rfl, by omega, by omega⟩
      case measure => simp [intOf]; omega
    · obtain rfl : k = ps.length := by omega
      by_cases e1 : 1048576 < ms.length
      · go_wp2
        go_ret
        exact ⟨_, rfl, rfl⟩
      by_cases e2 : 1048576 < n + (ms.length : Int)
      · go_wp2
        go_ret
        exact ⟨_, rfl, rfl⟩
      go_wp2
      go_loop [7, 9] (fun t i => ∃ (k : Nat) (n : Int), k ≤ ms.length ∧ i = .int .i64 k ∧ t = .int .i64 n ∧ 0 ≤ n ∧ n ≤ 1048576) (fun _ i => ms.length - (intOf i).toNat)
      case atStart => exact ⟨0, n + ms.length, Nat.zero_le _, rfl, rfl, by omega, by omega⟩
      case round =>
        obtain ⟨k, n, hk, rfl, rfl, hn0, hn1⟩ := hrel
        by_cases hlt : k < ms.length
        · obtain ⟨b, off, rfl, hb, hc, hz⟩ := hm k hlt
          generalize ms.getD k ByteArray.empty = s at *
          unfold maxLen at hz
          by_cases e1 : 1048576 < s.size
          · go_wp2
            go_ret
            exact ⟨_, rfl, rfl⟩
          by_cases e2 : 1048576 < n + (s.size : Int)
          · go_wp2
            go_ret
            exact ⟨_, rfl, rfl⟩
          go_wp2
          go_round
          case rel => exact ⟨k + 1, _, by omega, by go_num, rfl, by omega, by omega⟩
          case measure => simp [intOf]; omega
        · go_wp2
          go_ret
          exact ⟨_, rfl, rfl⟩
end Go.Proofs.Qxb6616236a
