import Derived.Test.Qxb6616158aTo
namespace Go.Proofs.Qxb6616158a
open Go.RowKit

/-- The lengths within the bound. -/
def Apd.lens (A : Apd) : Prop := A.entries.length ≤ 1048576 ∧ (∀ i, i < A.entries.length → (A.entries.getD i ent0).client.size ≤ 1048576 ∧ (A.entries.getD i ent0).payload.length ≤ 1048576) ∧ A.ends.length ≤ 1048576 ∧
  ∀ c, A.change = some c → c.members.length ≤ 1048576 ∧ (∀ i, i < c.members.length → (c.members.getD i mbr0).addr.size ≤ 1048576) ∧ c.goneAddr.size ≤ 1048576
/-- The lengths that every datum keeps. -/
def Apd.wide (A : Apd) : Prop := A.entries.length ≤ maxLen ∧ (∀ i, i < A.entries.length → (A.entries.getD i ent0).client.size ≤ maxLen ∧ (A.entries.getD i ent0).payload.length ≤ maxLen) ∧ A.ends.length ≤ maxLen ∧
  ∀ c, A.change = some c → c.members.length ≤ maxLen ∧ (∀ i, i < c.members.length → (c.members.getD i mbr0).addr.size ≤ maxLen) ∧ c.goneAddr.size ≤ maxLen
def SzPost (A : Apd) (bs : List Nat) (w : World) (e : Ending) (w' : World) : Prop := ∃ b : Bool, e = .returned (.bool b) ∧ Below w.heap.size w w' ∧ (b = true → A.lens ∧ bs.length ≤ 1048576)
theorem sz_no {A : Apd} {bs : List Nat} {w w' : World} (h : Below w.heap.size w w') : SzPost A bs w (.returned (.bool false)) w' := ⟨false, rfl, h, fun h => by cases h⟩

set_option maxRecDepth 100000 in
set_option maxHeartbeats 8000000 in
theorem bytes5_any (A : Apd) (ie : Option Addr) (ce : Nat) (an : Option Addr) (cn : Nat) (ip : Option Addr) (ab : Option Addr) (cb : Nat) (bs : List Nat) (x : Int) (w : World) (hA : A.wide) (hbl : bs.length ≤ maxLen) (hEn : EntsAt w.heap.size w ie A.entries) (hCh : ChgIn w ip A.change) :
    Calls Try.prog 5 #[.agg (apdv A (.slice ie A.entries.length ce) (.slice an A.ends.length cn) (.pointer ip)).toArray, .slice ab bs.length cb, .int .u64 x] w (SzPost A bs w) := by
  obtain ⟨ticket, epoch, start, prev, prevEpoch, entries, ends, commit, held, change, changes, changed, read⟩ := A
  obtain ⟨a1, a2, a3, a4⟩ := hA
  simp only at a1 a2 a3 a4 hEn hCh
  unfold maxLen at a1 a3 hbl
  have hb0 : ∀ o, Below w.heap.size w (w.alloc o) := fun o => (Below.refl _ _).alloc (Nat.le_refl _) _
  unfold apdv
  simp only
  by_cases h1 : entries.length ≤ 1048576
  · have t1 : decide ((1048576 : Int) < (entries.length : Int)) = false := by simp; omega
    go_enter Try.func5, Try.ntmps5
    go_wp2
    go_loop [7, 8] (fun t i => ∃ (k : Nat) (n : Int), k ≤ entries.length ∧ i = .int .i64 k ∧ t = .int .i64 n ∧ 0 ≤ n ∧ n ≤ 1048576 ∧ ∀ i, i < k → (entries.getD i ent0).client.size ≤ 1048576 ∧ (entries.getD i ent0).payload.length ≤ 1048576) (fun _ i => entries.length - (intOf i).toNat)
    case atStart => exact ⟨0, entries.length, Nat.zero_le _, rfl, rfl, by omega, by omega, fun i hi => by omega⟩
    case round =>
      obtain ⟨k, n, hk, rfl, rfl, hn0, hn1, hall⟩ := hrel
      by_cases hlt : k < entries.length
      · obtain ⟨b, off, ap, cp, rfl, hbl2, hpay, hcs⟩ := hEn k hlt
        have q2 := hcs 2 _ rfl
        have q4 := hcs 4 _ rfl
        obtain ⟨z1, z2⟩ := a2 k hlt
        have hstep : (entries.getD k ent0).client.size ≤ 1048576 → (entries.getD k ent0).payload.length ≤ 1048576 → ∀ i, i < k + 1 → (entries.getD i ent0).client.size ≤ 1048576 ∧ (entries.getD i ent0).payload.length ≤ 1048576 := fun p1 p2 i hi => by
          by_cases hik : i < k
          · exact hall i hik
          · obtain rfl : i = k := by omega
            exact ⟨p1, p2⟩
        generalize hE : entries.getD k ent0 = E at *
        obtain ⟨epos, eep, ecl, eseq, eps⟩ := E
        simp only at q2 q4 z1 z2 hstep
        unfold maxLen at z1 z2
        clear hcs hpay hE hall a2
        by_cases c1 : (1048576 : Int) < (ecl.size : Int)
        · go_wp2
          go_ret
          exact sz_no (hb0 _)
        by_cases c2 : 1048576 < n + (ecl.size : Int)
        · go_wp2
          go_ret
          exact sz_no (hb0 _)
        by_cases c3 : (1048576 : Int) < (eps.length : Int)
        · go_wp2
          go_ret
          exact sz_no (hb0 _)
        by_cases c4 : 1048576 < n + (ecl.size : Int) + (eps.length : Int)
        · go_wp2
          go_ret
          exact sz_no (hb0 _)
        have hst := hstep (by omega) (by omega)
        clear hstep
        go_wp2
        go_round
        case rel => exact ⟨k + 1, _, by omega, by go_num, rfl, by omega, by omega, hst⟩
        case measure => simp [intOf]; omega
      · obtain rfl : k = entries.length := by omega
        by_cases c1 : (1048576 : Int) < (ends.length : Int)
        · clear hall a2 hEn
          go_wp2
          go_ret
          exact sz_no (hb0 _)
        by_cases c2 : 1048576 < n + (ends.length : Int)
        · clear hall a2 hEn
          go_wp2
          go_ret
          exact sz_no (hb0 _)
        have HA : Hid (∀ i, i < entries.length → (entries.getD i ent0).client.size ≤ 1048576 ∧ (entries.getD i ent0).payload.length ≤ 1048576) := hall
        clear hall a2 hEn
        cases change with
        | none =>
          obtain rfl : ip = none := hCh
          by_cases c8 : (1048576 : Int) < (bs.length : Int)
          · go_wp2
            go_ret
            exact sz_no (hb0 _)
          by_cases c9 : 1048576 < n + (ends.length : Int) + (bs.length : Int)
          · go_wp2
            go_ret
            exact sz_no (hb0 _)
          go_wp2
          go_ret
          exact ⟨true, rfl, hb0 _, fun _ => ⟨⟨h1, HA.out, by simp only; omega, fun c hc => by cases hc⟩, by omega⟩⟩
        | some c =>
          obtain ⟨g, o, am, cm, rfl, hg, hcc, hmb, ham⟩ := hCh
          obtain ⟨w1, w2, w3⟩ := a4 c rfl
          unfold maxLen at w1 w3
          have e3 := hcc 3 _ rfl
          have e5 := hcc 5 _ rfl
          clear hcc a4 ham
          by_cases c3 : (1048576 : Int) < (c.members.length : Int)
          · go_wp2
            go_ret
            exact sz_no (hb0 _)
          by_cases c4 : 1048576 < n + (ends.length : Int) + (c.members.length : Int)
          · go_wp2
            go_ret
            exact sz_no (hb0 _)
          go_wp2
          go_loop [7, 9] (fun t i => ∃ (k : Nat) (p : Int), k ≤ c.members.length ∧ i = .int .i64 k ∧ t = .int .i64 p ∧ 0 ≤ p ∧ p ≤ 1048576 ∧ Hid (∀ i, i < k → (c.members.getD i mbr0).addr.size ≤ 1048576)) (fun _ i => c.members.length - (intOf i).toNat)
          case atStart => exact ⟨0, _, Nat.zero_le _, rfl, rfl, by omega, by omega, fun i hi => by omega⟩
          case round =>
            obtain ⟨k, p, hk, rfl, rfl, hp0, hp1, hall⟩ := hrel
            by_cases hlt : k < c.members.length
            · obtain ⟨b, off, rfl, hbl2, hcs⟩ := hmb k hlt
              have q1 := hcs 1 _ rfl
              have z1 := w2 k hlt
              have hstep : (c.members.getD k mbr0).addr.size ≤ 1048576 → Hid (∀ i, i < k + 1 → (c.members.getD i mbr0).addr.size ≤ 1048576) := fun p1 i hi => by
                by_cases hik : i < k
                · exact hall.out i hik
                · obtain rfl : i = k := by omega
                  exact p1
              generalize c.members.getD k mbr0 = M at *
              obtain ⟨mid, mad, mc, mn⟩ := M
              simp only at q1 z1 hstep
              unfold maxLen at z1
              clear hcs hmb w2
              by_cases d1 : (1048576 : Int) < (mad.size : Int)
              · go_wp2
                go_ret
                exact sz_no (hb0 _)
              by_cases d2 : 1048576 < p + (mad.size : Int)
              · go_wp2
                go_ret
                exact sz_no (hb0 _)
              have hst := hstep (by omega)
              clear hstep
              go_wp2
              go_round
              case rel => exact ⟨k + 1, _, by omega, by go_num, rfl, by omega, by omega, hst⟩
              case measure => simp [intOf]; omega
            · obtain rfl : k = c.members.length := by omega
              clear hmb w2
              by_cases d1 : (1048576 : Int) < (c.goneAddr.size : Int)
              · go_wp2
                go_ret
                exact sz_no (hb0 _)
              by_cases d2 : 1048576 < p + (c.goneAddr.size : Int)
              · go_wp2
                go_ret
                exact sz_no (hb0 _)
              by_cases c8 : (1048576 : Int) < (bs.length : Int)
              · go_wp2
                go_ret
                exact sz_no (hb0 _)
              by_cases c9 : 1048576 < p + (c.goneAddr.size : Int) + (bs.length : Int)
              · go_wp2
                go_ret
                exact sz_no (hb0 _)
              go_wp2
              go_ret
              exact ⟨true, rfl, hb0 _, fun _ => ⟨⟨h1, HA.out, by simp only; omega, fun c' hc => by cases hc; exact ⟨by omega, hall.out, by omega⟩⟩, by omega⟩⟩
  · have t1 : (1048576 : Int) < (entries.length : Int) := by omega
    go_enter Try.func5, Try.ntmps5
    go_wp2
    go_ret
    exact sz_no (hb0 _)
end Go.Proofs.Qxb6616158a
