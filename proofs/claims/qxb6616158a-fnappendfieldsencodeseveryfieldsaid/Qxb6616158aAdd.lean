import Derived.Test.Qxb6616158aTo
namespace Go.Proofs.Qxb6616158a
open Go.RowKit

def AddPost (w : World) (e : Ending) (w' : World) : Prop := ∃ (n : Int) (b : Bool), e = .returned (.tuple #[.int .i64 n, .bool b]) ∧ w' = w ∧ (b = true → 0 ≤ n ∧ n ≤ 1048576)

theorem add_any (n k : Int) (w : World) (h0 : 0 ≤ n) (h1 : n ≤ 9223372036854775807) (h2 : 0 ≤ k) (h3 : k ≤ 9223372036854775807) : Calls Try.prog 6 #[.int .i64 n, .int .i64 k] w (AddPost w) := by
  by_cases c1 : 1048576 < n
  · go_enter Try.func6, Try.ntmps6
    go_wp2
    go_ret2
    exact ⟨n, false, rfl, rfl, fun h => by cases h⟩
  by_cases c2 : 1048576 < k
  · go_enter Try.func6, Try.ntmps6
    go_wp2
    go_ret2
    exact ⟨n, false, rfl, rfl, fun h => by cases h⟩
  have d1 : decide (1048576 < n) = false := by simp; omega
  have d2 : decide (1048576 < k) = false := by simp; omega
  go_enter Try.func6, Try.ntmps6
  go_wp2
  go_ret2
  exact ⟨n + k, decide (n + k ≤ 1048576), rfl, rfl, fun h => ⟨by omega, of_decide_eq_true h⟩⟩

def AsPost (w : World) (e : Ending) (w' : World) : Prop := ∃ (n : Int) (b : Bool), e = .returned (.tuple #[.int .i64 n, .bool b]) ∧ Below w.heap.size w w'

set_option maxRecDepth 100000 in
set_option maxHeartbeats 8000000 in
theorem appendSize_any (A : Apd) (ie : Option Addr) (ce : Nat) (an : Option Addr) (cn : Nat) (ip : Option Addr) (n : Int) (w : World) (hf : A.fit) (hn0 : 0 ≤ n) (hn1 : n ≤ 1048576) (hEn : EntsAt w.heap.size w ie A.entries) (hCh : ChgIn w ip A.change) :
    Calls Try.prog 7 #[.agg (apdv A (.slice ie A.entries.length ce) (.slice an A.ends.length cn) (.pointer ip)).toArray, .int .i64 n] w (AsPost w) := by
  obtain ⟨ticket, epoch, start, prev, prevEpoch, entries, ends, commit, held, change, changes, changed, read⟩ := A
  obtain ⟨f0, f1, f2, f3, f4, f5, f6, f7, f8, f9, fc, fe, fel, fn, fnl⟩ := hf
  simp only at fc fe fel fnl hEn hCh
  clear f0 f1 f2 f3 f4 f5 f6 f7 f8 f9 fn
  have hb0 : ∀ o, Below w.heap.size w (w.alloc o) := fun o => (Below.refl _ _).alloc (Nat.le_refl _) _
  have t1 : decide ((1048576 : Int) < (entries.length : Int)) = false := by simp; omega
  have t2 : decide ((1048576 : Int) < (ends.length : Int)) = false := by simp; omega
  unfold apdv
  simp only
  go_enter Try.func7, Try.ntmps7
  go_wp2_with fail
  refine (add_any _ _ _ hn0 (by omega) (by omega) (by omega)).mono ?_
  rintro e w' ⟨n1, b, rfl, rfl, hb⟩
  cases b
  · go_wp2
    go_ret2
    exact ⟨_, _, rfl, hb0 _⟩
  obtain ⟨g1, g2⟩ := hb rfl
  clear hb
  go_wp2
  go_loop [1, 37, 6, 7] (fun t i _ _ => ∃ (k : Nat) (p : Int), k ≤ entries.length ∧ i = .int .i64 k ∧ t = .int .i64 p ∧ 0 ≤ p ∧ p ≤ 1048576) (fun _ i _ _ => entries.length - (intOf i).toNat)
  case atStart => exact ⟨0, _, Nat.zero_le _, rfl, rfl, g1, g2⟩
  case round =>
    obtain ⟨k, p, hk, rfl, rfl, hp0, hp1⟩ := hrel
    by_cases hlt : k < entries.length
    · obtain ⟨b, off, ap, cp, rfl, hbl2, hpay, hcs⟩ := hEn k hlt
      have q2 := hcs 2 _ rfl
      have q4 := hcs 4 _ rfl
      obtain ⟨_, _, z1, _, z2⟩ := fe (entries.getD k ent0) (by simp [List.getD, List.getElem?_eq_getElem hlt])
      generalize entries.getD k ent0 = E at *
      obtain ⟨epos, eep, ecl, eseq, eps⟩ := E
      simp only at q2 q4 z1 z2
      clear hcs hpay
      go_wp2_with fail
      refine (add_any _ _ _ hp0 (by omega) (by omega) (by omega)).mono ?_
      rintro e w' ⟨n2, b2, rfl, rfl, hb⟩
      cases b2
      · go_wp2
        go_ret2
        exact ⟨_, _, rfl, hb0 _⟩
      obtain ⟨g3, g4⟩ := hb rfl
      clear hb
      go_wp2_with fail
      refine (add_any _ _ _ g3 (by omega) (by omega) (by omega)).mono ?_
      rintro e w' ⟨n3, b3, rfl, rfl, hb⟩
      cases b3
      · go_wp2
        go_ret2
        exact ⟨_, _, rfl, hb0 _⟩
      obtain ⟨g5, g6⟩ := hb rfl
      clear hb
      go_wp2_with fail
      refine (add_any _ _ _ g5 (by omega) (by omega) (by omega)).mono ?_
      rintro e w' ⟨n4, b4, rfl, rfl, hb⟩
      cases b4
      · go_wp2
        go_ret2
        exact ⟨_, _, rfl, hb0 _⟩
      obtain ⟨g7, g8⟩ := hb rfl
      clear hb
      go_wp2
      go_round
      case rel => exact ⟨k + 1, _, by omega, by go_num, rfl, g7, g8⟩
      case measure => simp [intOf]; omega
    · clear hEn
      cases change with
      | none =>
        obtain rfl : ip = none := hCh
        go_wp2
        go_ret2
        exact ⟨_, _, rfl, hb0 _⟩
      | some c =>
        obtain ⟨g, o, am, cm, rfl, hg, hcc, hmb, ham⟩ := hCh
        obtain ⟨_, _, _, _, hf5, _, hf7, hf8⟩ := fc c rfl
        have e3 := hcc 3 _ rfl
        have e5 := hcc 5 _ rfl
        have t3 : decide ((1048576 : Int) < (c.members.length : Int)) = false := by simp; omega
        clear hcc ham
        go_wp2_with fail
        refine (add_any _ _ _ hp0 (by omega) (by omega) (by omega)).mono ?_
        rintro e w' ⟨m1, b_m1, rfl, rfl, hb⟩
        cases b_m1
        · go_wp2
          go_ret2
          exact ⟨_, _, rfl, hb0 _⟩
        obtain ⟨j0, j1⟩ := hb rfl
        clear hb
        go_wp2_with fail
        refine (add_any _ _ _ j0 (by omega) (by omega) (by omega)).mono ?_
        rintro e w' ⟨m2, b_m2, rfl, rfl, hb⟩
        cases b_m2
        · go_wp2
          go_ret2
          exact ⟨_, _, rfl, hb0 _⟩
        obtain ⟨l0, l1⟩ := hb rfl
        clear hb
        go_wp2
        go_loop [1, 117, 6, 9] (fun t i _ _ => ∃ (k : Nat) (p : Int), k ≤ c.members.length ∧ i = .int .i64 k ∧ t = .int .i64 p ∧ 0 ≤ p ∧ p ≤ 1048576) (fun _ i _ _ => c.members.length - (intOf i).toNat)
        case atStart => exact ⟨0, _, Nat.zero_le _, rfl, rfl, l0, l1⟩
        case round =>
          obtain ⟨k2, p2, hk2, rfl, rfl, hq0, hq1⟩ := hrel
          by_cases hlt2 : k2 < c.members.length
          · obtain ⟨b, off, rfl, hbl2, hcs⟩ := hmb k2 hlt2
            have q1 := hcs 1 _ rfl
            have z1 := (hf7 (c.members.getD k2 mbr0) (by simp [List.getD, List.getElem?_eq_getElem hlt2])).2
            generalize c.members.getD k2 mbr0 = M at *
            obtain ⟨mid, mad, mc, mn⟩ := M
            simp only at q1 z1
            clear hcs hmb
            go_wp2_with fail
            refine (add_any _ _ _ hq0 (by omega) (by omega) (by omega)).mono ?_
            rintro e w' ⟨m3, b_m3, rfl, rfl, hb⟩
            cases b_m3
            · go_wp2
              go_ret2
              exact ⟨_, _, rfl, hb0 _⟩
            obtain ⟨r0, r1⟩ := hb rfl
            clear hb
            go_wp2_with fail
            refine (add_any _ _ _ r0 (by omega) (by omega) (by omega)).mono ?_
            rintro e w' ⟨m4, b_m4, rfl, rfl, hb⟩
            cases b_m4
            · go_wp2
              go_ret2
              exact ⟨_, _, rfl, hb0 _⟩
            obtain ⟨v0, v1⟩ := hb rfl
            clear hb
            go_wp2
            go_round
            case rel => exact ⟨k2 + 1, _, by omega, by go_num, rfl, v0, v1⟩
            case measure => simp [intOf]; omega
          · clear hmb
            go_wp2
            go_ret2
            exact ⟨_, _, rfl, hb0 _⟩
end Go.Proofs.Qxb6616158a
