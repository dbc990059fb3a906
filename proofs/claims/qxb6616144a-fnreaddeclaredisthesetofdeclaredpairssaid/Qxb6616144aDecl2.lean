import Derived.Test.Qxb6616144aDecl
import Derived.Deep.CutBlock
import Derived.Deep.CutRange
namespace Go.Proofs.Qxb6616144a
open Go.RowKit

set_option maxRecDepth 100000 in
set_option maxHeartbeats 4000000 in
theorem addDeclared_any (g : Nat) (a1 a2 a3 : Option Addr) (es : List Ev) (ss : List Sc) (us : List Un) (c1 c2 c3 : Nat) (w : World) (h : Mtr g w) (he : EvsAt g w a1 es) (hs : ScsAt g w a2 ss) (hu : UnsAt g w a3 us)
    (l1 : es.length ≤ maxLen) (l2 : ss.length ≤ maxLen) (l3 : us.length ≤ maxLen) (hul : ∀ i, i < ss.length → (ss.getD i sc0).units.length ≤ 1048576) :
    Calls Try.prog 12 #[.pointer (some ⟨g, 0, none⟩), .slice a1 es.length c1, .slice a2 ss.length c2, .slice a3 us.length c3] w fun e w' => e = .returned (.tuple #[]) ∧ Stp g w w' := by
  unfold maxLen at l1 l2 l3
  go_enter Try.func12, Try.ntmps12
  go_wp2_with fail
  refine (addWords_any g _ _ _ h (by omega) (by omega) (by omega) (by omega)).mono ?_
  rintro e w1 ⟨rfl, hst⟩
  go_upto_block 0 with fail
  go_cut [8] from 15 to 43 (fun _ wx => Stp g w wx)
  case first =>
    go_wp2_with fail
    go_loopw [8] (fun i wr => ∃ k : Nat, k ≤ es.length ∧ i = .int .i64 k ∧ Stp g w wr) (fun i _ => es.length - (intOf i).toNat)
    case atStart => exact ⟨0, Nat.zero_le _, rfl, hst⟩
    case round =>
      obtain ⟨k, hk, rfl, hstr⟩ := hrel
      have hm := hstr.1
      obtain ⟨u, o, hh, h0, h1⟩ := hstr.1
      have d1 := two_cell1 hh
      clear hh h0 h1
      by_cases hlt : k < es.length
      · cases o
        · obtain ⟨b, off, rfl, hb, ⟨z0, z1⟩, hc⟩ := (he.keep hstr.2.1) k hlt
          generalize es.getD k ev0 = R at *
          obtain ⟨en, evn⟩ := R
          simp only at z0 z1
          unfold maxLen at z0 z1
          have q0 := hc 0 _ rfl
          have q1 := hc 1 _ rfl
          simp only [Nat.add_zero] at q0
          clear hc
          go_wp2_with fail
          refine (add_any g _ _ hm (by omega) (by omega)).mono ?_
          rintro e w2 ⟨rfl, hst2⟩
          have q1' := (hst2.2.1.cell (p := ⟨b, off + k * 2 + 1, none⟩) hb).trans q1
          clear q0 q1 d1
          go_wp2_with fail
          refine (add_any g _ _ hst2.1 (by omega) (by omega)).mono ?_
          rintro e w3 ⟨rfl, hst3⟩
          go_wp2
          go_roundw
          case rel => exact ⟨k + 1, by omega, by go_num, (hstr.trans hst2).trans hst3⟩
          case measure => simp [intOf]; omega
        · go_wp2
          go_meet
          case rel => exact hstr
      · go_wp2
        go_meet
        case rel => exact hstr
  case rest =>
    have hst1 : Stp g w wc := hcut
    clear hcut hst
    have hsc := hs.keep hst1.2.1
    have huc := hu.keep hst1.2.1
    go_wp2_with fail
    refine (addWords_any g _ _ _ hst1.1 (by omega) (by omega) (by omega) (by omega)).mono ?_
    rintro e w4 ⟨rfl, hst4'⟩
    have hst4 := hst1.trans hst4'
    clear hsc huc
    go_upto_block 2 with fail
    go_cut [9] from 48 to 98 (fun _ wx => Stp g w wx)
    case first =>
      go_wp2_with fail
      go_loopw [9] (fun i wr => ∃ k : Nat, k ≤ ss.length ∧ i = .int .i64 k ∧ Stp g w wr) (fun i _ => ss.length - (intOf i).toNat)
      case atStart => exact ⟨0, Nat.zero_le _, rfl, hst4⟩
      case round =>
        obtain ⟨k, hk, rfl, hstr⟩ := hrel
        have hm := hstr.1
        obtain ⟨u, o, hh, h0, h1⟩ := hstr.1
        have d1 := two_cell1 hh
        clear hh h0 h1
        by_cases hlt : k < ss.length
        · cases o
          · obtain ⟨b, off, au, cu, ar, cr, rfl, hb, ⟨z0, z1, z2, z3, z4⟩, hU, hR, _, _, hc⟩ := (hs.keep hstr.2.1) k hlt
            have z5 := hul k hlt
            generalize ss.getD k sc0 = R at *
            obtain ⟨key, id, par, un, rl⟩ := R
            simp only at z0 z1 z2 z3 z4 z5 hU hR
            have z4' := z4
            unfold maxLen at z0 z1 z2 z3 z4
            have q0 := hc 0 _ rfl
            have q1 := hc 1 _ rfl
            have q2 := hc 2 _ rfl
            have q3 := hc 3 _ rfl
            have q4 := hc 4 _ rfl
            simp only [Nat.add_zero] at q0
            clear hc
            go_wp2_with fail
            refine (add_any g _ _ hm (by omega) (by omega)).mono ?_
            rintro e x1 ⟨rfl, s1⟩
            have p1 := (s1.2.1.cell (p := ⟨b, off + k * 5 + 1, none⟩) hb).trans q1
            clear q0 q1 d1
            go_wp2_with fail
            refine (add_any g _ _ s1.1 (by omega) (by omega)).mono ?_
            rintro e x2 ⟨rfl, s2⟩
            have s12 := s1.trans s2
            have p2 := (s12.2.1.cell (p := ⟨b, off + k * 5 + 2, none⟩) hb).trans q2
            clear p1 q2
            go_wp2_with fail
            refine (add_any g _ _ s2.1 (by omega) (by omega)).mono ?_
            rintro e x3 ⟨rfl, s3⟩
            have s13 := s12.trans s3
            have p3 := (s13.2.1.cell (p := ⟨b, off + k * 5 + 3, none⟩) hb).trans q3
            clear p2 q3
            have hU3 := hU.keep s13.2.1
            have hg3 : g ≤ x3.heap.size := by obtain ⟨_, _, hh, _⟩ := s3.1; exact Nat.le_of_lt (lt_of_block hh)
            go_wp2_with fail
            refine (addStrings_any g au un cu x3 s3.1 (hU3.strs hg3) hU3.lo z5).mono ?_
            rintro e x4 ⟨rfl, s4⟩
            have s14 := s13.trans s4
            have p4 := (s14.2.1.cell (p := ⟨b, off + k * 5 + 4, none⟩) hb).trans q4
            clear p3 q4 hU3 hU
            have hR4 := hR.keep s14.2.1
            clear hR
            go_wp2_with fail
            refine (addRules_any g ar rl cr x4 s4.1 hR4 z4').mono ?_
            rintro e x5 ⟨rfl, s5⟩
            clear hR4 p4
            go_wp2
            go_roundw
            case rel => exact ⟨k + 1, by omega, by go_num, hstr.trans (s14.trans s5)⟩
            case measure => simp [intOf]; omega
          · go_wp2
            go_meet
            case rel => exact hstr
        · go_wp2
          go_meet
          case rel => exact hstr
    case rest =>
      have hst5 : Stp g w wc := hcut
      clear hcut hst1 hst4 hst4'
      go_wp2_with fail
      refine (addWords_any g _ _ _ hst5.1 (by omega) (by omega) (by omega) (by omega)).mono ?_
      rintro e w6 ⟨rfl, hst6'⟩
      have hst6 := hst5.trans hst6'
      clear hst6' hst5
      go_wp2_with fail
      go_loopw [10] (fun i wr => ∃ k : Nat, k ≤ us.length ∧ i = .int .i64 k ∧ Stp g w wr) (fun i _ => us.length - (intOf i).toNat)
      case atStart => exact ⟨0, Nat.zero_le _, rfl, hst6⟩
      case round =>
        obtain ⟨k, hk, rfl, hstr⟩ := hrel
        have hm := hstr.1
        obtain ⟨u, o, hh, h0, h1⟩ := hstr.1
        have d1 := two_cell1 hh
        clear hh h0 h1
        by_cases hlt : k < us.length
        · cases o
          · obtain ⟨b, off, ar, cr, rfl, hb, ⟨z0, z1, z4⟩, hR, _, hc⟩ := (hu.keep hstr.2.1) k hlt
            generalize us.getD k un0 = R at *
            obtain ⟨key, id, rl⟩ := R
            simp only at z0 z1 z4 hR
            have z4' := z4
            unfold maxLen at z0 z1 z4
            have q0 := hc 0 _ rfl
            have q1 := hc 1 _ rfl
            have q2 := hc 2 _ rfl
            simp only [Nat.add_zero] at q0
            clear hc
            go_wp2_with fail
            refine (add_any g _ _ hm (by omega) (by omega)).mono ?_
            rintro e x1 ⟨rfl, s1⟩
            have p1 := (s1.2.1.cell (p := ⟨b, off + k * 3 + 1, none⟩) hb).trans q1
            clear q0 q1 d1
            go_wp2_with fail
            refine (add_any g _ _ s1.1 (by omega) (by omega)).mono ?_
            rintro e x2 ⟨rfl, s2⟩
            have s12 := s1.trans s2
            have p2 := (s12.2.1.cell (p := ⟨b, off + k * 3 + 2, none⟩) hb).trans q2
            clear p1 q2
            have hR2 := hR.keep s12.2.1
            clear hR
            go_wp2_with fail
            refine (addRules_any g ar rl cr x2 s2.1 hR2 z4').mono ?_
            rintro e x5 ⟨rfl, s5⟩
            clear hR2 p2
            go_wp2
            go_roundw
            case rel => exact ⟨k + 1, by omega, by go_num, hstr.trans (s12.trans s5)⟩
            case measure => simp [intOf]; omega
          · go_wp2
            go_end0
            exact ⟨rfl, hstr⟩
        · go_wp2
          go_end0
          exact ⟨rfl, hstr⟩
end Go.Proofs.Qxb6616144a
