import Derived.Test.Qxb6616158aFld
namespace Go.Proofs.Qxb6616158a
open Go.RowKit

set_option maxRecDepth 100000 in
set_option maxHeartbeats 8000000 in
theorem append_fields (base : Nat) (v : Value) (bs : List Nat) (P : Nat) (A : Apd) (x : Int) (w : World) (hown : w.ownsRow base 5 1 v bs.length (bv bs)) (hb : base ≤ w.heap.size) (hA : ApdAt base w P A) (hf : A.fit) (hl : bs.length ≤ 1048576) :
    Calls Try.prog 15 #[.pointer (some ⟨P, 0, none⟩), v, .int .u64 x] w (EPost base v (bs ++ encApd A) w) := by
  obtain ⟨ae, ce, an, cn, pc, hP, hcs, hEn, hEd, hCh⟩ := hA
  obtain ⟨ticket, epoch, start, prev, prevEpoch, entries, ends, commit, held, change, changes, changed, read⟩ := A
  obtain ⟨f0, f1, f2, f3, f4, f5, f6, f7, f8, f9, fc, fe, fel, fn, fnl⟩ := hf
  simp only at f0 f1 f2 f3 f4 f5 f6 f7 f8 f9 fc fe fel fn fnl hEn hEd hCh
  have hvb : ∀ k, v.ownBlock = some k → base ≤ k := fun k hk => (hown.lt k hk).1
  have R0 : Row base w v v bs w := Row.start hown hb
  have ag : ∀ {v' : Value} {bs' : List Nat} {w' : World}, Row base w v v' bs' w' → Agree base w w' := fun R => R.agree hvb
  have cc : ∀ {v' : Value} {bs' : List Nat} {w' : World}, Row base w v v' bs' w' → ∀ j u, (apdv ⟨ticket, epoch, start, prev, prevEpoch, entries, ends, commit, held, change, changes, changed, read⟩ (.slice ae entries.length ce) (.slice an ends.length cn) (.pointer pc))[j]? = some u → w'.cell? ⟨P, j, none⟩ = some u := fun R j u hj => by
    rw [(ag R).cell hP]; exact hcs j u hj
  have ob : ∀ {v' : Value} {bs' : List Nat} {w' : World}, Row base w v v' bs' w' → ∀ k, k < base → some k ≠ v'.ownBlock := fun R k hk => R.other (by omega) (fun e => by have := hvb k e.symm; omega)
  have d0 := hcs 0 _ rfl
  have HB : Hid (bs ++ encApd ⟨ticket, epoch, start, prev, prevEpoch, entries, ends, commit, held, change, changes, changed, read⟩ = (bs ++ uv ticket ++ uv epoch ++ uv start ++ uv prev ++ uv prevEpoch ++ uv commit ++ uv held ++ uv changes ++ uv changed ++ uv read) ++ (encOpt change ++ (uv entries.length ++ (encEnts entries ++ (uv ends.length ++ encEnds ends))))) := by show _ = _; simp only [encApd, List.append_assoc]
  clear hcs hown
  go_enter Try.func15, Try.ntmps15
  go_wp2_with fail
  refine (R0.uv ticket f0 (by omega)).mono ?_
  rintro e w1 ⟨v1, rfl, R1⟩
  have hl1 : (bs ++ uv ticket).length ≤ bs.length + 10 := by rw [List.length_append]; have := uv_length ticket; omega
  have d1 := cc R1 1 _ rfl
  clear d0 R0
  go_wp2_with fail
  refine (R1.uv epoch f1 (by omega)).mono ?_
  rintro e w2 ⟨v2, rfl, R2⟩
  have hl2 : (bs ++ uv ticket ++ uv epoch).length ≤ bs.length + 20 := by rw [List.length_append]; have := uv_length epoch; omega
  have d2 := cc R2 2 _ rfl
  clear d1 R1
  clear hl1
  go_wp2_with fail
  refine (R2.uv start f2 (by omega)).mono ?_
  rintro e w3 ⟨v3, rfl, R3⟩
  have hl3 : (bs ++ uv ticket ++ uv epoch ++ uv start).length ≤ bs.length + 30 := by rw [List.length_append]; have := uv_length start; omega
  have d3 := cc R3 3 _ rfl
  clear d2 R2
  clear hl2
  go_wp2_with fail
  refine (R3.uv prev f3 (by omega)).mono ?_
  rintro e w4 ⟨v4, rfl, R4⟩
  have hl4 : (bs ++ uv ticket ++ uv epoch ++ uv start ++ uv prev).length ≤ bs.length + 40 := by rw [List.length_append]; have := uv_length prev; omega
  have d4 := cc R4 4 _ rfl
  clear d3 R3
  clear hl3
  go_wp2_with fail
  refine (R4.uv prevEpoch f4 (by omega)).mono ?_
  rintro e w5 ⟨v5, rfl, R5⟩
  have hl5 : (bs ++ uv ticket ++ uv epoch ++ uv start ++ uv prev ++ uv prevEpoch).length ≤ bs.length + 50 := by rw [List.length_append]; have := uv_length prevEpoch; omega
  have d5 := cc R5 7 _ rfl
  clear d4 R4
  clear hl4
  go_wp2_with fail
  refine (R5.uv commit f5 (by omega)).mono ?_
  rintro e w6 ⟨v6, rfl, R6⟩
  have hl6 : (bs ++ uv ticket ++ uv epoch ++ uv start ++ uv prev ++ uv prevEpoch ++ uv commit).length ≤ bs.length + 60 := by rw [List.length_append]; have := uv_length commit; omega
  have d6 := cc R6 8 _ rfl
  clear d5 R5
  clear hl5
  go_wp2_with fail
  refine (R6.uv held f6 (by omega)).mono ?_
  rintro e w7 ⟨v7, rfl, R7⟩
  have hl7 : (bs ++ uv ticket ++ uv epoch ++ uv start ++ uv prev ++ uv prevEpoch ++ uv commit ++ uv held).length ≤ bs.length + 70 := by rw [List.length_append]; have := uv_length held; omega
  have d7 := cc R7 10 _ rfl
  clear d6 R6
  clear hl6
  go_wp2_with fail
  refine (R7.uv changes f7 (by omega)).mono ?_
  rintro e w8 ⟨v8, rfl, R8⟩
  have hl8 : (bs ++ uv ticket ++ uv epoch ++ uv start ++ uv prev ++ uv prevEpoch ++ uv commit ++ uv held ++ uv changes).length ≤ bs.length + 80 := by rw [List.length_append]; have := uv_length changes; omega
  have d8 := cc R8 11 _ rfl
  clear d7 R7
  clear hl7
  go_wp2_with fail
  refine (R8.uv changed f8 (by omega)).mono ?_
  rintro e w9 ⟨v9, rfl, R9⟩
  have hl9 : (bs ++ uv ticket ++ uv epoch ++ uv start ++ uv prev ++ uv prevEpoch ++ uv commit ++ uv held ++ uv changes ++ uv changed).length ≤ bs.length + 90 := by rw [List.length_append]; have := uv_length changed; omega
  have d9 := cc R9 12 _ rfl
  clear d8 R8
  clear hl8
  go_wp2_with fail
  refine (R9.uv read f9 (by omega)).mono ?_
  rintro e w10 ⟨v10, rfl, R10⟩
  have hl10 : (bs ++ uv ticket ++ uv epoch ++ uv start ++ uv prev ++ uv prevEpoch ++ uv commit ++ uv held ++ uv changes ++ uv changed ++ uv read).length ≤ bs.length + 100 := by rw [List.length_append]; have := uv_length read; omega
  have d10 := cc R10 9 _ rfl
  clear d9 R9 hl9
  generalize bs ++ uv ticket ++ uv epoch ++ uv start ++ uv prev ++ uv prevEpoch ++ uv commit ++ uv held ++ uv changes ++ uv changed ++ uv read = B1 at *
  cases change with
  | none =>
    obtain rfl : pc = none := hCh
    go_wp2_with fail
    refine (R10.bool false (by omega)).mono ?_
    rintro e w11 ⟨v11, rfl, R11⟩
    have R11' : Row base w v v11 (B1 ++ encOpt none) w11 := R11
    have hl11 : (B1 ++ encOpt none).length ≤ 1099700000000 := by rw [List.length_append]; simp [encOpt]; omega
    have d11 := cc R11 9 _ rfl
    have da := cc R11 5 _ rfl
    clear d10 R10 R11
    generalize hB2 : B1 ++ encOpt none = B2 at *
    have Ra := R11'
    clear R11'
    go_wp2_with fail
    refine (Ra.uv entries.length (by omega) (by omega)).mono ?_
    rintro e wb ⟨vb, rfl, Rb⟩
    have hlb : (B2 ++ uv entries.length).length ≤ 1099700000010 := by rw [List.length_append]; have := uv_length entries.length; omega
    have db := cc Rb 5 _ rfl
    clear da Ra
    go_wp2
    generalize hB3 : B2 ++ uv entries.length = B3 at *
    go_loopw [1, 104] (fun u i wr => ∃ k : Nat, k ≤ entries.length ∧ i = .int .i64 k ∧ Row base w v u (B3 ++ encEnts (entries.take k)) wr) (fun _ i _ => entries.length - (intOf i).toNat)
    case atStart => exact ⟨0, Nat.zero_le _, rfl, by simpa [encEnts] using Rb⟩
    case round =>
      obtain ⟨k, hk, rfl, R⟩ := hrel
      have hlk := encEnts_len (entries.take k) (fun m hm => fe m (List.mem_of_mem_take hm))
      have hlk2 : (B3 ++ encEnts (entries.take k)).length = B3.length + (encEnts (entries.take k)).length := List.length_append
      have hlk3 : (entries.take k).length ≤ k := List.length_take_le _ _
      have hBl : (B3 ++ encEnts (entries.take k)).length ≤ 3299000000000 := by omega
      clear hlk hlk2 hlk3
      by_cases hlt : k < entries.length
      · have hsz := R.size
        obtain ⟨b, off, ap, cp, rfl, hbl, hpay, hcs⟩ := (hEn.agree (ag R)) k hlt
        have HS : Hid (encEnts (entries.take (k + 1)) = encEnts (entries.take k) ++ encEnt (entries.getD k ent0)) := encEnts_snoc entries k hlt
        have hfe : (entries.getD k ent0).fit := fe _ (by simp [List.getD, List.getElem?_eq_getElem hlt])
        generalize entries.getD k ent0 = E at *
        obtain ⟨epos, eep, ecl, eseq, eps⟩ := E
        obtain ⟨g1, g2, g3, g4, g5⟩ := hfe
        simp only at g1 g2 g3 g4 g5 hpay
        have q0 := hcs 0 _ rfl
        have q1 := hcs 1 _ rfl
        have q2 := hcs 2 _ rfl
        have q3 := hcs 3 _ rfl
        have q4 := hcs 4 _ rfl
        simp only [Nat.add_zero] at q0
        have hpb := hpay.bytes hsz
        have hpn : ∀ b off, ap = some ⟨b, off, none⟩ → 0 < eps.length → some b ≠ u1.ownBlock ∧ b < wr.heap.size := fun b off e h => ⟨ob R b (hpay.lo b off e h), by have := hpay.lo b off e h; omega⟩
        have hpn1 : ∀ b off, ap = some ⟨b, off, none⟩ → 0 < eps.length → some b ≠ u1.ownBlock ∧ b < wr.heap.size + 1 := fun b off e h => ⟨(hpn b off e h).1, by have := (hpn b off e h).2; omega⟩
        have hap := hpay.1
        clear hcs hpay ag ob
        go_wp2_with fail
        refine ((R.alloc _).entry epos eep ecl eseq ap eps cp g1 g2 g4 hap (hpb.alloc _) (by simpa using hpn1) (by omega) g3 g5).mono ?_
        rintro e wc ⟨vc, rfl, Rc⟩
        have Rd : Row base w v vc (B3 ++ encEnts (entries.take (k + 1))) wc := by rw [HS.out, ← List.append_assoc]; exact Rc
        clear Rc hpn hpn1 hpb
        go_wp2
        go_roundw
        case rel => exact ⟨k + 1, by omega, by go_num, Rd⟩
        case measure => simp [intOf]; omega
      · obtain rfl : k = entries.length := by omega
        rw [List.take_length] at R hBl
        have dc := cc R 6 _ rfl
        clear db Rb
        go_wp2_with fail
        refine (R.uv ends.length (by omega) (by omega)).mono ?_
        rintro e wc ⟨vc, rfl, Rc⟩
        have hlc : (B3 ++ encEnts entries ++ uv ends.length).length ≤ 3299000000010 := by rw [List.length_append]; have := uv_length ends.length; omega
        have dd := cc Rc 6 _ rfl
        clear dc R
        go_wp2
        generalize hB4 : B3 ++ encEnts entries ++ uv ends.length = B4 at *
        go_loopw [1, 125] (fun u i wr => ∃ k : Nat, k ≤ ends.length ∧ i = .int .i64 k ∧ Row base w v u (B4 ++ encEnds (ends.take k)) wr) (fun _ i _ => ends.length - (intOf i).toNat)
        case atStart => exact ⟨0, Nat.zero_le _, rfl, by simpa [encEnds] using Rc⟩
        case round =>
          obtain ⟨k, hk, rfl, R⟩ := hrel
          have hlk := encEnds_len (ends.take k)
          have hlk2 : (B4 ++ encEnds (ends.take k)).length = B4.length + (encEnds (ends.take k)).length := List.length_append
          have hlk3 : (ends.take k).length ≤ k := List.length_take_le _ _
          have hBl4 : (B4 ++ encEnds (ends.take k)).length ≤ 3300000000000 := by omega
          clear hlk hlk2 hlk3
          by_cases hlt : k < ends.length
          · obtain ⟨b, off, rfl, hbl, hc⟩ := (hEd.agree (ag R)) k hlt
            have HS : Hid (encEnds (ends.take (k + 1)) = encEnds (ends.take k) ++ uv (ends.getD k 0)) := encEnds_snoc ends k hlt
            have hfe : ends.getD k 0 < 18446744073709551616 := fn _ (by simp [List.getD, List.getElem?_eq_getElem hlt])
            generalize ends.getD k 0 = E at *
            go_wp2_with fail
            refine (R.uv E hfe (by omega)).mono ?_
            rintro e wd ⟨vd, rfl, Rd⟩
            have Re : Row base w v vd (B4 ++ encEnds (ends.take (k + 1))) wd := by rw [HS.out, ← List.append_assoc]; exact Rd
            clear Rd
            go_wp2
            go_roundw
            case rel => exact ⟨k + 1, by omega, by go_num, Re⟩
            case measure => simp [intOf]; omega
          · obtain rfl : k = ends.length := by omega
            rw [List.take_length] at R
            go_wp2
            go_ret
            refine ⟨_, rfl, ?_, R.gr, R.mv⟩
            have := R.own
            rw [← hB4, ← hB3, ← hB2] at this
            rw [HB.out]
            simp only [List.append_assoc] at this ⊢
            exact this
  | some c =>
    obtain ⟨g, am, cm, rfl, hg, hcc, hmb⟩ := hCh
    have hfc := fc c rfl
    go_wp2_with fail
    refine (R10.bool true (by omega)).mono ?_
    rintro e w11 ⟨v11, rfl, R11⟩
    have R11' : Row base w v v11 (B1 ++ [1]) w11 := R11
    have hl11 : (B1 ++ [1]).length ≤ 2097152 := by rw [List.length_append]; simp; omega
    have d11 := cc R11 9 _ rfl
    have gc : ∀ j u, (c.cells (.slice am c.members.length cm))[j]? = some u → w11.cell? ⟨g, j, none⟩ = some u := fun j u hj => by rw [(ag R11).cell hg]; exact hcc j u hj
    have e0 := gc 0 _ rfl
    have e1 := gc 1 _ rfl
    have e2 := gc 2 _ rfl
    have e3 := gc 3 _ rfl
    have e4 := gc 4 _ rfl
    have e5 := gc 5 _ rfl
    have e6 := gc 6 _ rfl
    have e7 := gc 7 _ rfl
    have e8 := gc 8 _ rfl
    have K := R11'.changeIn c am cm hfc ((hmb.agree (ag R11)).at R11.size) (fun b off e h => ob R11 b (hmb.lo b off e h)) hl11
    simp only [Chg.cells, cgv] at K
    have hcl := encChgIn_len c hfc
    clear d10 R10 R11 gc hcc hmb fc
    go_wp2_with fail
    refine K.mono ?_
    rintro e w12 ⟨v12, rfl, R12⟩
    have R12' : Row base w v v12 (B1 ++ encOpt (some c)) w12 := by
      have h := R12
      rw [List.append_assoc] at h
      exact h
    have hl12 : (B1 ++ encOpt (some c)).length ≤ 1099700000000 := by rw [List.length_append]; simp [encOpt]; omega
    have da := cc R12 5 _ rfl
    clear R11' R12 K e0 e1 e2 e3 e4 e5 e6 e7 e8 d11
    generalize hB2 : B1 ++ encOpt (some c) = B2 at *
    have Ra := R12'
    clear R12'
    go_wp2_with fail
    refine (Ra.uv entries.length (by omega) (by omega)).mono ?_
    rintro e wb ⟨vb, rfl, Rb⟩
    have hlb : (B2 ++ uv entries.length).length ≤ 1099700000010 := by rw [List.length_append]; have := uv_length entries.length; omega
    have db := cc Rb 5 _ rfl
    clear da Ra
    go_wp2
    generalize hB3 : B2 ++ uv entries.length = B3 at *
    go_loopw [1, 104] (fun u i wr => ∃ k : Nat, k ≤ entries.length ∧ i = .int .i64 k ∧ Row base w v u (B3 ++ encEnts (entries.take k)) wr) (fun _ i _ => entries.length - (intOf i).toNat)
    case atStart => exact ⟨0, Nat.zero_le _, rfl, by simpa [encEnts] using Rb⟩
    case round =>
      obtain ⟨k, hk, rfl, R⟩ := hrel
      have hlk := encEnts_len (entries.take k) (fun m hm => fe m (List.mem_of_mem_take hm))
      have hlk2 : (B3 ++ encEnts (entries.take k)).length = B3.length + (encEnts (entries.take k)).length := List.length_append
      have hlk3 : (entries.take k).length ≤ k := List.length_take_le _ _
      have hBl : (B3 ++ encEnts (entries.take k)).length ≤ 3299000000000 := by omega
      clear hlk hlk2 hlk3
      by_cases hlt : k < entries.length
      · have hsz := R.size
        obtain ⟨b, off, ap, cp, rfl, hbl, hpay, hcs⟩ := (hEn.agree (ag R)) k hlt
        have HS : Hid (encEnts (entries.take (k + 1)) = encEnts (entries.take k) ++ encEnt (entries.getD k ent0)) := encEnts_snoc entries k hlt
        have hfe : (entries.getD k ent0).fit := fe _ (by simp [List.getD, List.getElem?_eq_getElem hlt])
        generalize entries.getD k ent0 = E at *
        obtain ⟨epos, eep, ecl, eseq, eps⟩ := E
        obtain ⟨g1, g2, g3, g4, g5⟩ := hfe
        simp only at g1 g2 g3 g4 g5 hpay
        have q0 := hcs 0 _ rfl
        have q1 := hcs 1 _ rfl
        have q2 := hcs 2 _ rfl
        have q3 := hcs 3 _ rfl
        have q4 := hcs 4 _ rfl
        simp only [Nat.add_zero] at q0
        have hpb := hpay.bytes hsz
        have hpn : ∀ b off, ap = some ⟨b, off, none⟩ → 0 < eps.length → some b ≠ u1.ownBlock ∧ b < wr.heap.size := fun b off e h => ⟨ob R b (hpay.lo b off e h), by have := hpay.lo b off e h; omega⟩
        have hpn1 : ∀ b off, ap = some ⟨b, off, none⟩ → 0 < eps.length → some b ≠ u1.ownBlock ∧ b < wr.heap.size + 1 := fun b off e h => ⟨(hpn b off e h).1, by have := (hpn b off e h).2; omega⟩
        have hap := hpay.1
        clear hcs hpay ag ob
        go_wp2_with fail
        refine ((R.alloc _).entry epos eep ecl eseq ap eps cp g1 g2 g4 hap (hpb.alloc _) (by simpa using hpn1) (by omega) g3 g5).mono ?_
        rintro e wc ⟨vc, rfl, Rc⟩
        have Rd : Row base w v vc (B3 ++ encEnts (entries.take (k + 1))) wc := by rw [HS.out, ← List.append_assoc]; exact Rc
        clear Rc hpn hpn1 hpb
        go_wp2
        go_roundw
        case rel => exact ⟨k + 1, by omega, by go_num, Rd⟩
        case measure => simp [intOf]; omega
      · obtain rfl : k = entries.length := by omega
        rw [List.take_length] at R hBl
        have dc := cc R 6 _ rfl
        clear db Rb
        go_wp2_with fail
        refine (R.uv ends.length (by omega) (by omega)).mono ?_
        rintro e wc ⟨vc, rfl, Rc⟩
        have hlc : (B3 ++ encEnts entries ++ uv ends.length).length ≤ 3299000000010 := by rw [List.length_append]; have := uv_length ends.length; omega
        have dd := cc Rc 6 _ rfl
        clear dc R
        go_wp2
        generalize hB4 : B3 ++ encEnts entries ++ uv ends.length = B4 at *
        go_loopw [1, 125] (fun u i wr => ∃ k : Nat, k ≤ ends.length ∧ i = .int .i64 k ∧ Row base w v u (B4 ++ encEnds (ends.take k)) wr) (fun _ i _ => ends.length - (intOf i).toNat)
        case atStart => exact ⟨0, Nat.zero_le _, rfl, by simpa [encEnds] using Rc⟩
        case round =>
          obtain ⟨k, hk, rfl, R⟩ := hrel
          have hlk := encEnds_len (ends.take k)
          have hlk2 : (B4 ++ encEnds (ends.take k)).length = B4.length + (encEnds (ends.take k)).length := List.length_append
          have hlk3 : (ends.take k).length ≤ k := List.length_take_le _ _
          have hBl4 : (B4 ++ encEnds (ends.take k)).length ≤ 3300000000000 := by omega
          clear hlk hlk2 hlk3
          by_cases hlt : k < ends.length
          · obtain ⟨b, off, rfl, hbl, hc⟩ := (hEd.agree (ag R)) k hlt
            have HS : Hid (encEnds (ends.take (k + 1)) = encEnds (ends.take k) ++ uv (ends.getD k 0)) := encEnds_snoc ends k hlt
            have hfe : ends.getD k 0 < 18446744073709551616 := fn _ (by simp [List.getD, List.getElem?_eq_getElem hlt])
            generalize ends.getD k 0 = E at *
            go_wp2_with fail
            refine (R.uv E hfe (by omega)).mono ?_
            rintro e wd ⟨vd, rfl, Rd⟩
            have Re : Row base w v vd (B4 ++ encEnds (ends.take (k + 1))) wd := by rw [HS.out, ← List.append_assoc]; exact Rd
            clear Rd
            go_wp2
            go_roundw
            case rel => exact ⟨k + 1, by omega, by go_num, Re⟩
            case measure => simp [intOf]; omega
          · obtain rfl : k = ends.length := by omega
            rw [List.take_length] at R
            go_wp2
            go_ret
            refine ⟨_, rfl, ?_, R.gr, R.mv⟩
            have := R.own
            rw [← hB4, ← hB3, ← hB2] at this
            rw [HB.out]
            simp only [List.append_assoc] at this ⊢
            exact this
end Go.Proofs.Qxb6616158a
