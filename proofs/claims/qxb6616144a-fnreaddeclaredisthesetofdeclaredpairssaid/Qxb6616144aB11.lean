import Derived.Test.Qxb6616144aDecl
namespace Go.Proofs.Qxb6616144a
open Go.RowKit

def ssum (ss : List Sc) : Nat → Nat
  | 0 => 0
  | k + 1 => ssum ss k + (ss.getD k sc0).units.length + (ss.getD k sc0).rules.length
def usum (us : List Un) : Nat → Nat
  | 0 => 0
  | k + 1 => usum us k + (us.getD k un0).rules.length
/-- 'It answers; nothing turns; a yes bounds the lengths together'. -/
def DPost (es : List Ev) (ss : List Sc) (us : List Un) (w : World) (e : Ending) (w' : World) : Prop :=
  ∃ b : Bool, e = .returned (.bool b) ∧ w' = w ∧ (b = true → es.length + ss.length + ssum ss ss.length + us.length + usum us us.length ≤ 1048576)
theorem d_no {es : List Ev} {ss : List Sc} {us : List Un} {w : World} : DPost es ss us w (.returned (.bool false)) w := ⟨false, rfl, rfl, fun h => by cases h⟩

set_option maxRecDepth 100000 in
set_option maxHeartbeats 16000000 in
theorem bytes11_any (a1 a2 a3 : Option Addr) (es : List Ev) (ss : List Sc) (us : List Un) (c1 c2 c3 : Nat) (w : World) (B : Nat) (he : EvsAt B w a1 es) (hs : ScsAt B w a2 ss) (hu : UnsAt B w a3 us) (l1 : es.length ≤ maxLen) (l2 : ss.length ≤ maxLen) (l3 : us.length ≤ maxLen) :
    Calls Try.prog 11 #[.slice a1 es.length c1, .slice a2 ss.length c2, .slice a3 us.length c3] w (DPost es ss us w) := by
  unfold maxLen at l1 l2 l3
  by_cases x0 : (1048576 : Int) < (es.length : Int)
  · go_enter Try.func11, Try.ntmps11
    go_wp2
    go_ret
    exact d_no
  go_enter Try.func11, Try.ntmps11
  go_wp2 <;> (first | (go_ret; exact d_no) | skip)
  go_loop [7, 8] (fun t i => ∃ (k : Nat) (n : Int), k ≤ es.length ∧ i = .int .i64 k ∧ t = .int .i64 n ∧ (es.length : Int) ≤ n ∧ n ≤ 1048576) (fun _ i => es.length - (intOf i).toNat)
  case atStart => exact ⟨0, es.length, Nat.zero_le _, rfl, by simp, by omega, by omega⟩
  case round =>
    as_aux_lemma =>
      obtain ⟨k, n, hk, rfl, rfl, hn0, hn1⟩ := hrel
      by_cases hlt : k < es.length
      · obtain ⟨b, off, rfl, hb, ⟨z0, z1⟩, hc⟩ := he k hlt
        have q0 := hc 0 _ rfl
        have q1 := hc 1 _ rfl
        simp only [Nat.add_zero] at q0
        generalize es.getD k ev0 = R at *
        obtain ⟨en, evn⟩ := R
        simp only at z0 z1 q0 q1
        unfold maxLen at z0 z1
        clear hc
        go_wp2 <;> (first | (go_ret; exact d_no) | skip)
        go_round
        case rel => exact ⟨k + 1, _, by omega, by go_num, rfl, by omega, by omega⟩
        case measure => simp [intOf]; omega
      obtain rfl : k = es.length := by omega
      clear he hlt hk
      go_wp2 <;> (first | (go_ret; exact d_no) | skip)
      go_loop [7, 9, 10, 11] (fun t i _ _ => ∃ (k : Nat) (n : Int), k ≤ ss.length ∧ i = .int .i64 k ∧ t = .int .i64 n ∧ ((es.length + ss.length + ssum ss k : Nat) : Int) ≤ n ∧ n ≤ 1048576) (fun _ i _ _ => ss.length - (intOf i).toNat)
      case atStart => exact ⟨0, _, Nat.zero_le _, rfl, rfl, by simp [ssum]; omega, by omega⟩
      case round =>
        as_aux_lemma =>
          obtain ⟨k, n, hk, rfl, rfl, hn0, hn1⟩ := hrel
          by_cases hlt : k < ss.length
          · obtain ⟨b, off, au, cu, ar, cr, rfl, hb, ⟨z0, z1, z2, z3, z4⟩, hU, hR, _, _, hc⟩ := hs k hlt
            have HS : Hid (ssum ss (k + 1) = ssum ss k + (ss.getD k sc0).units.length + (ss.getD k sc0).rules.length) := rfl
            have q0 := hc 0 _ rfl
            have q1 := hc 1 _ rfl
            have q2 := hc 2 _ rfl
            have q3 := hc 3 _ rfl
            have q4 := hc 4 _ rfl
            simp only [Nat.add_zero] at q0
            generalize ss.getD k sc0 = R at *
            obtain ⟨key, id, par, un, rl⟩ := R
            simp only at z0 z1 z2 z3 z4 hU hR HS q0 q1 q2 q3 q4
            unfold maxLen at z0 z1 z2 z3 z4
            clear hc
            go_wp2 <;> (first | (go_ret; exact d_no) | skip)
            go_loop [7, 10] (fun t i => ∃ (j : Nat) (n' : Int), j ≤ un.length ∧ i = .int .i64 j ∧ t = .int .i64 n' ∧ n + (un.length : Int) ≤ n' ∧ n' ≤ 1048576) (fun _ i => un.length - (intOf i).toNat)
            case atStart => exact ⟨0, _, Nat.zero_le _, rfl, rfl, by omega, by omega⟩
            case round =>
              as_aux_lemma =>
                obtain ⟨j, n', hj, rfl, rfl, hm0, hm1⟩ := hrel
                by_cases hlt2 : j < un.length
                · obtain ⟨b', off', rfl, hb', hcc, hz⟩ := hU j hlt2
                  generalize un.getD j ByteArray.empty = s at *
                  unfold maxLen at hz
                  go_wp2 <;> (first | (go_ret; exact d_no) | skip)
                  go_round
                  case rel => exact ⟨j + 1, _, by omega, by go_num, rfl, by omega, by omega⟩
                  case measure => simp [intOf]; omega
                obtain rfl : j = un.length := by omega
                clear hU hlt2 hj
                go_wp2 <;> (first | (go_ret; exact d_no) | skip)
                go_loop [7, 11] (fun t i => ∃ (j : Nat) (m : Int), j ≤ rl.length ∧ i = .int .i64 j ∧ t = .int .i64 m ∧ n' + (rl.length : Int) ≤ m ∧ m ≤ 1048576) (fun _ i => rl.length - (intOf i).toNat)
                case atStart => exact ⟨0, _, Nat.zero_le _, rfl, rfl, by omega, by omega⟩
                case round =>
                  as_aux_lemma =>
                    obtain ⟨j, m, hj, rfl, rfl, hm2, hm3⟩ := hrel
                    by_cases hlt2 : j < rl.length
                    · obtain ⟨b', off', rfl, hb', ⟨g0, g1, g2⟩, hcc⟩ := hR j hlt2
                      have r0 := hcc 0 _ rfl
                      have r1 := hcc 1 _ rfl
                      have r2 := hcc 2 _ rfl
                      simp only [Nat.add_zero] at r0
                      generalize rl.getD j rl0 = R at *
                      obtain ⟨en, evn, rq, ap⟩ := R
                      simp only at g0 g1 g2 r0 r1 r2
                      unfold maxLen at g0 g1 g2
                      clear hcc
                      go_wp2 <;> (first | (go_ret; exact d_no) | skip)
                      go_round
                      case rel => exact ⟨j + 1, _, by omega, by go_num, rfl, by omega, by omega⟩
                      case measure => simp [intOf]; omega
                    obtain rfl : j = rl.length := by omega
                    have HS' := HS.out
                    go_wp2 <;> (first | (go_ret; exact d_no) | skip)
                    go_round
                    case rel => exact ⟨k + 1, m, by omega, by go_num, rfl, by rw [HS']; omega, by omega⟩
                    case measure => simp [intOf]; omega
          obtain rfl : k = ss.length := by omega
          clear hs hlt hk
          go_wp2 <;> (first | (go_ret; exact d_no) | skip)
          go_loop [7, 12, 13] (fun t i _ => ∃ (k : Nat) (n : Int), k ≤ us.length ∧ i = .int .i64 k ∧ t = .int .i64 n ∧ ((es.length + ss.length + ssum ss ss.length + us.length + usum us k : Nat) : Int) ≤ n ∧ n ≤ 1048576) (fun _ i _ => us.length - (intOf i).toNat)
          case atStart => exact ⟨0, _, Nat.zero_le _, rfl, rfl, by simp [usum]; omega, by omega⟩
          case round =>
            as_aux_lemma =>
              obtain ⟨k, n, hk, rfl, rfl, hn0, hn1⟩ := hrel
              by_cases hlt : k < us.length
              · obtain ⟨b, off, ar, cr, rfl, hb, ⟨z0, z1, z4⟩, hR, _, hc⟩ := hu k hlt
                have HS : Hid (usum us (k + 1) = usum us k + (us.getD k un0).rules.length) := rfl
                have q0 := hc 0 _ rfl
                have q1 := hc 1 _ rfl
                have q2 := hc 2 _ rfl
                simp only [Nat.add_zero] at q0
                generalize us.getD k un0 = R at *
                obtain ⟨key, id, rl⟩ := R
                simp only at z0 z1 z4 hR HS q0 q1 q2
                unfold maxLen at z0 z1 z4
                clear hc
                go_wp2 <;> (first | (go_ret; exact d_no) | skip)
                go_loop [7, 13] (fun t i => ∃ (j : Nat) (m : Int), j ≤ rl.length ∧ i = .int .i64 j ∧ t = .int .i64 m ∧ n + (rl.length : Int) ≤ m ∧ m ≤ 1048576) (fun _ i => rl.length - (intOf i).toNat)
                case atStart => exact ⟨0, _, Nat.zero_le _, rfl, rfl, by omega, by omega⟩
                case round =>
                  as_aux_lemma =>
                    obtain ⟨j, m, hj, rfl, rfl, hm2, hm3⟩ := hrel
                    by_cases hlt2 : j < rl.length
                    · obtain ⟨b', off', rfl, hb', ⟨g0, g1, g2⟩, hcc⟩ := hR j hlt2
                      have r0 := hcc 0 _ rfl
                      have r1 := hcc 1 _ rfl
                      have r2 := hcc 2 _ rfl
                      simp only [Nat.add_zero] at r0
                      generalize rl.getD j rl0 = R at *
                      obtain ⟨en, evn, rq, ap⟩ := R
                      simp only at g0 g1 g2 r0 r1 r2
                      unfold maxLen at g0 g1 g2
                      clear hcc
                      go_wp2 <;> (first | (go_ret; exact d_no) | skip)
                      go_round
                      case rel => exact ⟨j + 1, _, by omega, by go_num, rfl, by omega, by omega⟩
                      case measure => simp [intOf]; omega
                    obtain rfl : j = rl.length := by omega
                    have HS' := HS.out
                    go_wp2 <;> (first | (go_ret; exact d_no) | skip)
                    go_round
                    case rel => exact ⟨k + 1, m, by omega, by go_num, rfl, by rw [HS']; omega, by omega⟩
                    case measure => simp [intOf]; omega
              obtain rfl : k = us.length := by omega
              go_wp2
              go_ret
              exact ⟨true, rfl, rfl, fun _ => by omega⟩
end Go.Proofs.Qxb6616144a
