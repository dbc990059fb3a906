import Derived.Test.Qxb6616158aSt
namespace Go.Proofs.Qxb6616158a
open Go.RowKit

theorem St.rebase {w0 w : World} {R q cap : Nat} {os rest : List Nat} (h : St w0 R q cap os rest w) (o : Obj) : St (w.alloc o) R q cap os rest (w.alloc o) := by
  obtain ⟨i, hr, _, hd, hi⟩ := h.alloc o
  exact ⟨i, hr, grown_refl _ _, hd, hi⟩
theorem St.join {w0 w w' : World} {R q cap : Nat} {os rest rest' : List Nat} {o : Obj} (h : St w0 R q cap os rest w) (k : St (w.alloc o) R q cap os rest' w') : St w0 R q cap os rest' w' := by
  obtain ⟨i, hr, hg, hd, hi⟩ := k
  obtain ⟨_, _, hg0, _⟩ := h.alloc o
  exact ⟨i, hr, grown_chain hg0 hg, hd, hi⟩
theorem encMbrs_cons (ms : List Mbr) (k : Nat) (h : k < ms.length) : encMbrs (ms.drop k) = encMbr (ms.getD k mbr0) ++ encMbrs (ms.drop (k + 1)) := by
  unfold encMbrs
  rw [List.drop_eq_getElem_cons h, List.flatMap_cons]
  simp [List.getD, List.getElem?_eq_getElem h]
theorem encEnts_cons (ms : List Ent) (k : Nat) (h : k < ms.length) : encEnts (ms.drop k) = encEnt (ms.getD k ent0) ++ encEnts (ms.drop (k + 1)) := by
  unfold encEnts
  rw [List.drop_eq_getElem_cons h, List.flatMap_cons]
  simp [List.getD, List.getElem?_eq_getElem h]
theorem encEnds_cons (ms : List Nat) (k : Nat) (h : k < ms.length) : encEnds (ms.drop k) = uv (ms.getD k 0) ++ encEnds (ms.drop (k + 1)) := by
  unfold encEnds
  rw [List.drop_eq_getElem_cons h, List.flatMap_cons]
  simp [List.getD, List.getElem?_eq_getElem h]

set_option maxRecDepth 100000 in
set_option maxHeartbeats 8000000 in
theorem encodes_any (A : Apd) (ie : Option Addr) (ce : Nat) (an : Option Addr) (cn : Nat) (ip : Option Addr) (q cap : Nat) (ab : Option Addr) (cb : Nat) (bs os : List Nat) (w : World) (hf : A.fit) (hEn : EntsAt w.heap.size w ie A.entries) (hEd : NumsAt w an A.ends) (hCh : ChgIn w ip A.change)
    (hos : os = bs ++ encApd A) (hol : os.length ≤ 4611686018427387904) (hq : q < w.heap.size) (hout : ∀ j, j < os.length → w.cell? ⟨q, j, none⟩ = some (.int .u8 ((os.getD j 0 : Nat) : Int))) (hbs : BytesAt w ab bs) :
    Calls Try.prog 11 #[.slice (some ⟨q, 0, none⟩) os.length cap, .slice ab bs.length cb, .agg (apdv A (.slice ie A.entries.length ce) (.slice an A.ends.length cn) (.pointer ip)).toArray] w fun e w' => e = .returned (.bool true) ∧ Below w.heap.size w w' := by
  obtain ⟨ticket, epoch, start, prev, prevEpoch, entries, ends, commit, held, change, changes, changed, read⟩ := A
  obtain ⟨f0, f1, f2, f3, f4, f5, f6, f7, f8, f9, fc, fe, fel, fn, fnl⟩ := hf
  simp only at f0 f1 f2 f3 f4 f5 f6 f7 f8 f9 fc fe fel fn fnl hEn hEd hCh
  have hol2 : bs.length ≤ os.length := by rw [hos, List.length_append]; omega
  have hpre : ∀ j, j < bs.length → os.getD j 0 = bs.getD j 0 := fun j hj => by rw [hos]; simp [List.getD, List.getElem?_append_left hj]
  have HD : Hid (os.drop bs.length = encApd ⟨ticket, epoch, start, prev, prevEpoch, entries, ends, commit, held, change, changes, changed, read⟩) := by show _ = _; rw [hos]; simp
  have g0 : ¬ (os.length : Int) < (bs.length : Int) := by omega
  have gd0 : decide ((os.length : Int) < (bs.length : Int)) = false := by simp; omega
  clear hos
  generalize hMb : Obj.cells (apdv ⟨ticket, epoch, start, prev, prevEpoch, entries, ends, commit, held, change, changes, changed, read⟩ (.slice ie entries.length ce) (.slice an ends.length cn) (.pointer ip)).toArray 27 = Mb
  have hM : ∀ j u, (apdv ⟨ticket, epoch, start, prev, prevEpoch, entries, ends, commit, held, change, changes, changed, read⟩ (.slice ie entries.length ce) (.slice an ends.length cn) (.pointer ip))[j]? = some u → (w.alloc Mb).cell? ⟨w.heap.size, j, none⟩ = some u := fun j u hj => by
    rw [← hMb, cell_of_row _ _ _ _ _ _ (heap_alloc_new w _)]
    simpa using hj
  have hb1 : Below w.heap.size w (w.alloc Mb) := (Below.refl _ _).alloc (Nat.le_refl _) _
  have hs1 : (w.alloc Mb).heap.size = w.heap.size + 1 := by simp
  unfold apdv
  unfold apdv at hMb
  simp only at hMb
  have HMb : Hid (_ = Mb) := hMb
  clear hMb
  simp only
  go_enter Try.func11, Try.ntmps11
  go_wp2
  rw [HMb.out]
  generalize w.alloc Mb = w1 at *
  go_loopw [21, 7] (fun i _ wr => ∃ k : Nat, k ≤ bs.length ∧ i = .int .i64 k ∧ Below w1.heap.size w1 wr ∧ wr.heap.size = w1.heap.size) (fun i _ _ => bs.length - (intOf i).toNat)
  case atStart => exact ⟨0, Nat.zero_le _, rfl, Below.refl _ _, rfl⟩
  case round =>
    obtain ⟨k, hk, rfl, hbr, hsr⟩ := hrel
    have hbw : Below w.heap.size w wr := hb1.trans (hbr.mono (by omega))
    by_cases hlt : k < bs.length
    · have hby : wr.cell? ⟨q, k, none⟩ = some (.int .u8 ((os.getD k 0 : Nat) : Int)) := (hbw.cell (p := ⟨q, k, none⟩) hq).trans (hout k (by omega))
      rw [hpre k hlt] at hby
      obtain ⟨b, off, rfl, hb2, hb3⟩ := hbs k hlt
      have hb4 : wr.cell? ⟨b, off + k, none⟩ = some (.int .u8 ((bs.getD k 0 : Nat) : Int)) := (hbw.cell (p := ⟨b, off + k, none⟩) hb2).trans hb3
      generalize bs.getD k 0 = B at *
      have hlt2 : (k : Int) < (os.length : Int) := by omega
      clear hpre hout hb3 hM
      go_wp2
      go_quiet (fail)
      go_wp2
      go_roundw
      case rel => exact ⟨k + 1, by omega, by go_num, below_drewN hbr _, hsr⟩
      case measure => simp [intOf]; omega
    · obtain rfl : k = bs.length := by omega
      have hR : wr.heap.size = w.heap.size + 1 := hsr.trans hs1
      have dw0 := hM 0 _ rfl
      have hRd : Rd (w.heap.size + 1) q cap os bs.length (wr.alloc (.cells #[.slice (some ⟨q, 0, none⟩) os.length cap, .int .i64 (bs.length : Int), .bool true] 67)) := ⟨by rw [← hR]; exact heap_alloc_new wr _, fun j hj => by rw [World.cell?_of_block (w := wr) (Below.heap_alloc wr _ q (by omega))]; exact (hbw.cell (p := ⟨q, j, none⟩) hq).trans (hout j hj), by omega, hol, by simp; omega⟩
      have S0 : St (wr.alloc (.cells #[.slice (some ⟨q, 0, none⟩) os.length cap, .int .i64 (bs.length : Int), .bool true] 67)) (w.heap.size + 1) q cap os (encApd ⟨ticket, epoch, start, prev, prevEpoch, entries, ends, commit, held, change, changes, changed, read⟩) (wr.alloc (.cells #[.slice (some ⟨q, 0, none⟩) os.length cap, .int .i64 (bs.length : Int), .bool true] 67)) := ⟨bs.length, hRd, grown_refl _ _, HD.out, hol2⟩
      have hb2 : Below w.heap.size w (wr.alloc (.cells #[.slice (some ⟨q, 0, none⟩) os.length cap, .int .i64 (bs.length : Int), .bool true] 67)) := hbw.alloc (by omega) _
      have hsz2 : (wr.alloc (.cells #[.slice (some ⟨q, 0, none⟩) os.length cap, .int .i64 (bs.length : Int), .bool true] 67)).heap.size = w.heap.size + 1 + 1 := by simp [hR]
      have hM2 : ∀ j, (wr.alloc (.cells #[.slice (some ⟨q, 0, none⟩) os.length cap, .int .i64 (bs.length : Int), .bool true] 67)).cell? ⟨w.heap.size, j, none⟩ = w1.cell? ⟨w.heap.size, j, none⟩ := fun j => by rw [World.cell?_of_block (w := wr) (Below.heap_alloc wr _ w.heap.size (by omega))]; exact hbr.cell (p := ⟨w.heap.size, j, none⟩) (by simp; omega)
      unfold encApd at S0
      simp only at S0
      clear hRd hpre hout hbs hsr
      go_wp2_with fail
      generalize wr.alloc (.cells #[.slice (some ⟨q, 0, none⟩) os.length cap, .int .i64 (bs.length : Int), .bool true] 67) = w2 at *
      have mc : ∀ {rest : List Nat} {w' : World}, St w2 (w.heap.size + 1) q cap os rest w' → ∀ j u, (apdv ⟨ticket, epoch, start, prev, prevEpoch, entries, ends, commit, held, change, changes, changed, read⟩ (.slice ie entries.length ce) (.slice an ends.length cn) (.pointer ip))[j]? = some u → w'.cell? ⟨w.heap.size, j, none⟩ = some u := fun S j u hj => by
        rw [S.cell j (by omega) (by omega), hM2]; exact hM j u hj
      have ag : ∀ {rest : List Nat} {w' : World}, St w2 (w.heap.size + 1) q cap os rest w' → Agree w.heap.size w w' := fun S => (Agree.of_below hb2).trans (S.agree (by omega) (by omega))
      refine (S0.uv ticket f0).mono ?_
      rintro e x1 ⟨rfl, S1⟩
      have d1 := mc S1 1 _ rfl
      clear S0
      go_wp2_with fail
      refine (S1.uv epoch f1).mono ?_
      rintro e x2 ⟨rfl, S2⟩
      have d2 := mc S2 2 _ rfl
      clear S1 d1
      go_wp2_with fail
      refine (S2.uv start f2).mono ?_
      rintro e x3 ⟨rfl, S3⟩
      have d3 := mc S3 3 _ rfl
      clear S2 d2
      go_wp2_with fail
      refine (S3.uv prev f3).mono ?_
      rintro e x4 ⟨rfl, S4⟩
      have d4 := mc S4 4 _ rfl
      clear S3 d3
      go_wp2_with fail
      refine (S4.uv prevEpoch f4).mono ?_
      rintro e x5 ⟨rfl, S5⟩
      have d5 := mc S5 7 _ rfl
      clear S4 d4
      go_wp2_with fail
      refine (S5.uv commit f5).mono ?_
      rintro e x6 ⟨rfl, S6⟩
      have d6 := mc S6 8 _ rfl
      clear S5 d5
      go_wp2_with fail
      refine (S6.uv held f6).mono ?_
      rintro e x7 ⟨rfl, S7⟩
      have d7 := mc S7 10 _ rfl
      clear S6 d6
      go_wp2_with fail
      refine (S7.uv changes f7).mono ?_
      rintro e x8 ⟨rfl, S8⟩
      have d8 := mc S8 11 _ rfl
      clear S7 d7
      go_wp2_with fail
      refine (S8.uv changed f8).mono ?_
      rintro e x9 ⟨rfl, S9⟩
      have d9 := mc S9 12 _ rfl
      clear S8 d8
      go_wp2_with fail
      refine (S9.uv read f9).mono ?_
      rintro e x10 ⟨rfl, S10⟩
      have d10 := mc S10 9 _ rfl
      clear S9 d9
      cases change with
      | none =>
        obtain rfl : ip = none := hCh
        have S10' : St w2 (w.heap.size + 1) q cap os (0 :: (uv entries.length ++ (encEnts entries ++ (uv ends.length ++ encEnds ends)))) x10 := S10
        clear S10
        go_wp2_with fail
        refine (S10'.one 0).mono ?_
        rintro e y0 ⟨rfl, Sa⟩
        have da := mc Sa 5 _ rfl
        clear S10' d10
        go_wp2_with fail
        refine (Sa.uv entries.length (by omega)).mono ?_
        rintro e y1 ⟨rfl, Sb⟩
        have db := mc Sb 5 _ rfl
        clear da Sa
        go_wp2
        go_loopw [189, 11, 12] (fun i _ _ wr => ∃ k : Nat, k ≤ entries.length ∧ i = .int .i64 k ∧ St w2 (w.heap.size + 1) q cap os (encEnts (entries.drop k) ++ (uv ends.length ++ encEnds ends)) wr) (fun i _ _ _ => entries.length - (intOf i).toNat)
        case atStart => exact ⟨0, Nat.zero_le _, rfl, Sb⟩
        case round =>
          obtain ⟨k, hk, rfl, S⟩ := hrel
          clear db
          have db := mc S 5 _ rfl
          by_cases hlt : k < entries.length
          · have hsz := S.size
            have hRl := S.lt
            obtain ⟨b, off, ap, cp, rfl, hbl, hpay, hcs⟩ := (hEn.agree (ag S)) k hlt
            have hfe : (entries.getD k ent0).fit := fe _ (by simp [List.getD, List.getElem?_eq_getElem hlt])
            rw [encEnts_cons entries k hlt] at S
            generalize entries.getD k ent0 = E at *
            obtain ⟨epos, eep, ecl, eseq, eps⟩ := E
            obtain ⟨g1, g2, g3, g4, g5⟩ := hfe
            simp only at g1 g2 g3 g4 g5 hpay
            have q0 := hcs 0 _ rfl
            have q1 := hcs 1 _ rfl
            have q2 := hcs 2 _ rfl
            have q3 := hcs 3 _ rfl
            have q4 := hcs 4 _ rfl
            simp only [Nat.add_zero] at q0
            have hpb := (hpay.bytes (show w.heap.size ≤ wr.heap.size by omega)).alloc (.cells #[.int .u64 (epos : Int), .int .u64 (eep : Int), .string ecl, .int .u64 (eseq : Int), .slice ap eps.length cp] 42)
            have hpn : ∀ b off, ap = some ⟨b, off, none⟩ → 0 < eps.length → b ≠ w.heap.size + 1 := fun b off e h => by have := hpay.lo b off e h; omega
            have hpl : ∀ b off, ap = some ⟨b, off, none⟩ → 0 < eps.length → b < w.heap.size := fun b off e h => hpay.lo b off e h
            have T0 := S.rebase (.cells #[.int .u64 (epos : Int), .int .u64 (eep : Int), .string ecl, .int .u64 (eseq : Int), .slice ap eps.length cp] 42)
            simp only [encEnt, List.append_assoc] at T0
            have bx : ∀ {rest : List Nat} {w' : World}, St (wr.alloc (.cells #[.int .u64 (epos : Int), .int .u64 (eep : Int), .string ecl, .int .u64 (eseq : Int), .slice ap eps.length cp] 42)) (w.heap.size + 1) q cap os rest w' → ∀ j u, (#[.int .u64 (epos : Int), .int .u64 (eep : Int), .string ecl, .int .u64 (eseq : Int), .slice ap eps.length cp] : Array Value)[j]? = some u → w'.cell? ⟨wr.heap.size, j, none⟩ = some u := fun T j u hj => by
              rw [T.cell j (by simp) (by omega), cell_of_row _ _ _ _ _ _ (heap_alloc_new wr _)]; exact hj
            clear hcs hpay
            go_wp2_with fail
            refine (T0.uv epos g1).mono ?_
            rintro e z1 ⟨rfl, T1⟩
            have u1x := bx T1 1 _ rfl
            clear T0
            go_wp2_with fail
            refine (T1.uv eep g2).mono ?_
            rintro e z2 ⟨rfl, T2⟩
            have u2x := bx T2 2 _ rfl
            clear T1 u1x
            go_wp2_with fail
            refine (T2.str ecl g3).mono ?_
            rintro e z3 ⟨rfl, T3⟩
            have u3x := bx T3 3 _ rfl
            clear T2 u2x
            go_wp2_with fail
            refine (T3.uv eseq g4).mono ?_
            rintro e z4 ⟨rfl, T4⟩
            have u4x := bx T4 4 _ rfl
            have hp4 : BytesAt z4 ap eps := fun i hi => by
              obtain ⟨b, off, e, h1, h2⟩ := hpb i hi
              have hb0 := hpl b off e (by omega)
              exact ⟨b, off, e, Nat.lt_of_lt_of_le h1 T4.size, by rw [T4.cell _ h1 (by omega)]; exact h2⟩
            clear T3 u3x bx hpb
            go_wp2_with fail
            refine (T4.bytes ap cp eps g5 hp4 hpn).mono ?_
            rintro e z5 ⟨rfl, T5⟩
            have S2 := S.join T5
            clear T4 T5 u4x hp4 hpn hpl
            go_wp2
            go_roundw
            case rel => exact ⟨k + 1, by omega, by go_num, S2⟩
            case measure => simp [intOf]; omega
          · obtain rfl : k = entries.length := by omega
            rw [List.drop_length] at S
            have S' : St w2 (w.heap.size + 1) q cap os (uv ends.length ++ encEnds ends) wr := S
            have dc := mc S 6 _ rfl
            clear S Sb
            go_wp2_with fail
            refine (S'.uv ends.length (by omega)).mono ?_
            rintro e y2 ⟨rfl, Sc⟩
            clear dc
            have dc := mc Sc 6 _ rfl
            clear S'
            go_wp2
            go_loopw [227, 13] (fun i _ wr => ∃ k : Nat, k ≤ ends.length ∧ i = .int .i64 k ∧ St w2 (w.heap.size + 1) q cap os (encEnds (ends.drop k)) wr) (fun i _ _ => ends.length - (intOf i).toNat)
            case atStart => exact ⟨0, Nat.zero_le _, rfl, Sc⟩
            case round =>
              obtain ⟨k, hk, rfl, S⟩ := hrel
              clear dc
              have dc := mc S 6 _ rfl
              by_cases hlt : k < ends.length
              · obtain ⟨b, off, rfl, hbl, hc⟩ := hEd k hlt
                have hcx : wr.cell? ⟨b, off + k, none⟩ = some (.int .u64 ((ends.getD k 0 : Nat) : Int)) := ((ag S).cell hbl _).trans hc
                have hfe : ends.getD k 0 < 18446744073709551616 := fn _ (by simp [List.getD, List.getElem?_eq_getElem hlt])
                rw [encEnds_cons ends k hlt] at S
                generalize ends.getD k 0 = E at *
                clear hc
                go_wp2_with fail
                refine (S.uv E hfe).mono ?_
                rintro e y3 ⟨rfl, Sd⟩
                clear S hcx
                go_wp2
                go_roundw
                case rel => exact ⟨k + 1, by omega, by go_num, Sd⟩
                case measure => simp [intOf]; omega
              · obtain rfl : k = ends.length := by omega
                rw [List.drop_length] at S
                have S' : St w2 (w.heap.size + 1) q cap os [] wr := S
                obtain ⟨k1, k2⟩ := S'.done
                have hfin : Below w.heap.size w wr := by
                  obtain ⟨_, _, hg, _⟩ := S'
                  exact hb2.trans ⟨hg.os, hg.tape, hg.output, hg.size, fun j hj => hg.block j (by omega) (fun e => by cases e; omega)⟩
                clear S S' Sc
                go_wp2
                go_ret
                exact ⟨rfl, hfin⟩
      | some c =>
        obtain ⟨g, o, am, cm, rfl, hg, hcc, hmb, ham⟩ := hCh
        obtain ⟨hf1, hf2, hf3, hf4, hf5, hf6, hf7, hf8⟩ := fc c rfl
        have S10' : St w2 (w.heap.size + 1) q cap os (1 :: (encChgIn c ++ (uv entries.length ++ (encEnts entries ++ (uv ends.length ++ encEnds ends))))) x10 := S10
        have gc : ∀ {rest : List Nat} {w' : World}, St w2 (w.heap.size + 1) q cap os rest w' → ∀ j u, (c.cells (.slice am c.members.length cm))[j]? = some u → w'.cell? ⟨g, o + j, none⟩ = some u := fun S j u hj => ((ag S).cell hg _).trans (hcc j u hj)
        clear S10
        go_wp2_with fail
        refine (S10'.one 1).mono ?_
        rintro e v0 ⟨rfl, P0⟩
        simp only [encChgIn, encChg, List.append_assoc] at P0
        have d10 := mc P0 9 _ rfl
        have c0 := gc P0 0 _ rfl
        simp only [Nat.add_zero] at c0
        clear S10'
        go_wp2_with fail
        refine (P0.uv c.number hf1).mono ?_
        rintro e v1 ⟨rfl, P1⟩
        have c1 := gc P1 1 _ rfl
        clear P0 c0
        go_wp2_with fail
        refine (P1.uv c.epoch hf2).mono ?_
        rintro e v2 ⟨rfl, P2⟩
        have c2 := gc P2 2 _ rfl
        clear P1 c1
        go_wp2_with fail
        refine (P2.uv c.after hf3).mono ?_
        rintro e v3 ⟨rfl, P3⟩
        have c3 := gc P3 3 _ rfl
        clear P2 c2
        go_wp2_with fail
        refine (P3.uv c.members.length (by omega)).mono ?_
        rintro e v4 ⟨rfl, P4⟩
        clear c3
        have c3 := gc P4 3 _ rfl
        clear P3
        go_wp2
        go_loopw [119, 10] (fun i _ wr => ∃ k : Nat, k ≤ c.members.length ∧ i = .int .i64 k ∧ St w2 (w.heap.size + 1) q cap os (encMbrs (c.members.drop k) ++ (uv c.goneID ++ (encBytes (sb c.goneAddr) ++ (uv c.group ++ (uv entries.length ++ (encEnts entries ++ (uv ends.length ++ encEnds ends))))))) wr) (fun i _ _ => c.members.length - (intOf i).toNat)
        case atStart => exact ⟨0, Nat.zero_le _, rfl, P4⟩
        case round =>
          obtain ⟨k, hk, rfl, S⟩ := hrel
          clear c3
          have c3 := gc S 3 _ rfl
          by_cases hlt : k < c.members.length
          · obtain ⟨b, off, rfl, hbl, hcs⟩ := (hmb.agree (ag S)) k hlt
            have hfm : (c.members.getD k mbr0).fit := hf7 _ (by simp [List.getD, List.getElem?_eq_getElem hlt])
            rw [encMbrs_cons c.members k hlt] at S
            have mcc : ∀ {rest : List Nat} {w' : World}, St w2 (w.heap.size + 1) q cap os rest w' → ∀ j u, (mbv (c.members.getD k mbr0))[j]? = some u → w'.cell? ⟨b, off + k * 4 + j, none⟩ = some u := fun S j u hj => by
              obtain ⟨b', off', e', _, hc'⟩ := (hmb.agree (ag S)) k hlt
              cases e'
              exact hc' j u hj
            generalize c.members.getD k mbr0 = M at *
            obtain ⟨mid, mad, mcn, mn⟩ := M
            obtain ⟨hm1, hm2⟩ := hfm
            simp only at hm1 hm2
            simp only [encMbr, List.append_assoc, List.cons_append] at S
            have q0 := hcs 0 _ rfl
            simp only [Nat.add_zero] at q0
            clear hcs
            go_wp2_with fail
            refine (S.uv mid hm1).mono ?_
            rintro e z1 ⟨rfl, T1⟩
            have cz := gc T1 3 _ rfl
            have q2 := mcc T1 2 _ rfl
            have q3 := mcc T1 3 _ rfl
            have keep := fun (w' : World) (h : St w2 (w.heap.size + 1) q cap os (encBytes (sb mad) ++ (encMbrs (c.members.drop (k + 1)) ++ (uv c.goneID ++ (encBytes (sb c.goneAddr) ++ (uv c.group ++ (uv entries.length ++ (encEnts entries ++ (uv ends.length ++ encEnds ends)))))))) w') => And.intro (gc h 3 _ rfl) (And.intro (mcc h 2 _ rfl) (mcc h 3 _ rfl))
            clear S q0
            go_wp2
            go_region_held3 (fun w' => w'.cell? ⟨g, o + 3, none⟩ = some (.slice (some ⟨b, off, none⟩) c.members.length cm) ∧ w'.cell? ⟨b, off + k * 4 + 2, none⟩ = some (.bool mcn) ∧ w'.cell? ⟨b, off + k * 4 + 3, none⟩ = some (.bool mn)) (go_keep)
              (first | (go_at_call 19; refine (mark_any mcn mn _).mono ?_; rintro e w' ⟨rfl, rfl⟩) | (go_at_call 18; refine (T1.drew.one (mark mcn mn)).mono ?_; rintro e z2 ⟨rfl, T2⟩; have hk2 := keep z2 T2; obtain ⟨n3, n4, n5⟩ := hk2))
            have q1 := mcc T2 1 _ rfl
            clear keep T1 cz q2 q3
            go_wp2_with fail
            refine (T2.str mad hm2).mono ?_
            rintro e z3 ⟨rfl, T3⟩
            clear T2 q1 n3 n4 n5 mcc
            go_wp2
            go_roundw
            case rel => exact ⟨k + 1, by omega, by go_num, T3⟩
            case measure => simp [intOf]; omega
          · obtain rfl : k = c.members.length := by omega
            rw [List.drop_length] at S
            have S' : St w2 (w.heap.size + 1) q cap os (uv c.goneID ++ (encBytes (sb c.goneAddr) ++ (uv c.group ++ (uv entries.length ++ (encEnts entries ++ (uv ends.length ++ encEnds ends)))))) wr := S
            have c4 := gc S' 4 _ rfl
            clear S P4 c3
            go_wp2_with fail
            refine (S'.uv c.goneID hf4).mono ?_
            rintro e v5 ⟨rfl, P5⟩
            have c5 := gc P5 5 _ rfl
            clear S' c4
            go_wp2_with fail
            refine (P5.str c.goneAddr hf5).mono ?_
            rintro e v6 ⟨rfl, P6⟩
            have c8 := gc P6 8 _ rfl
            clear P5 c5
            go_wp2_with fail
            refine (P6.uv c.group hf6).mono ?_
            rintro e v7 ⟨rfl, Sa⟩
            have da := mc Sa 5 _ rfl
            clear P6 c8 gc hcc hmb
            go_wp2_with fail
            refine (Sa.uv entries.length (by omega)).mono ?_
            rintro e y1 ⟨rfl, Sb⟩
            have db := mc Sb 5 _ rfl
            clear da Sa
            go_wp2
            go_loopw [189, 11, 12] (fun i _ _ wr => ∃ k : Nat, k ≤ entries.length ∧ i = .int .i64 k ∧ St w2 (w.heap.size + 1) q cap os (encEnts (entries.drop k) ++ (uv ends.length ++ encEnds ends)) wr) (fun i _ _ _ => entries.length - (intOf i).toNat)
            case atStart => exact ⟨0, Nat.zero_le _, rfl, Sb⟩
            case round =>
              obtain ⟨k, hk, rfl, S⟩ := hrel
              clear db
              have db := mc S 5 _ rfl
              by_cases hlt : k < entries.length
              · have hsz := S.size
                have hRl := S.lt
                obtain ⟨b, off, ap, cp, rfl, hbl, hpay, hcs⟩ := (hEn.agree (ag S)) k hlt
                have hfe : (entries.getD k ent0).fit := fe _ (by simp [List.getD, List.getElem?_eq_getElem hlt])
                rw [encEnts_cons entries k hlt] at S
                generalize entries.getD k ent0 = E at *
                obtain ⟨epos, eep, ecl, eseq, eps⟩ := E
                obtain ⟨g1, g2, g3, g4, g5⟩ := hfe
                simp only at g1 g2 g3 g4 g5 hpay
                have q0 := hcs 0 _ rfl
                have q1 := hcs 1 _ rfl
                have q2 := hcs 2 _ rfl
                have q3 := hcs 3 _ rfl
                have q4 := hcs 4 _ rfl
                simp only [Nat.add_zero] at q0
                have hpb := (hpay.bytes (show w.heap.size ≤ wr.heap.size by omega)).alloc (.cells #[.int .u64 (epos : Int), .int .u64 (eep : Int), .string ecl, .int .u64 (eseq : Int), .slice ap eps.length cp] 42)
                have hpn : ∀ b off, ap = some ⟨b, off, none⟩ → 0 < eps.length → b ≠ w.heap.size + 1 := fun b off e h => by have := hpay.lo b off e h; omega
                have hpl : ∀ b off, ap = some ⟨b, off, none⟩ → 0 < eps.length → b < w.heap.size := fun b off e h => hpay.lo b off e h
                have T0 := S.rebase (.cells #[.int .u64 (epos : Int), .int .u64 (eep : Int), .string ecl, .int .u64 (eseq : Int), .slice ap eps.length cp] 42)
                simp only [encEnt, List.append_assoc] at T0
                have bx : ∀ {rest : List Nat} {w' : World}, St (wr.alloc (.cells #[.int .u64 (epos : Int), .int .u64 (eep : Int), .string ecl, .int .u64 (eseq : Int), .slice ap eps.length cp] 42)) (w.heap.size + 1) q cap os rest w' → ∀ j u, (#[.int .u64 (epos : Int), .int .u64 (eep : Int), .string ecl, .int .u64 (eseq : Int), .slice ap eps.length cp] : Array Value)[j]? = some u → w'.cell? ⟨wr.heap.size, j, none⟩ = some u := fun T j u hj => by
                  rw [T.cell j (by simp) (by omega), cell_of_row _ _ _ _ _ _ (heap_alloc_new wr _)]; exact hj
                clear hcs hpay
                go_wp2_with fail
                refine (T0.uv epos g1).mono ?_
                rintro e z1 ⟨rfl, T1⟩
                have u1x := bx T1 1 _ rfl
                clear T0
                go_wp2_with fail
                refine (T1.uv eep g2).mono ?_
                rintro e z2 ⟨rfl, T2⟩
                have u2x := bx T2 2 _ rfl
                clear T1 u1x
                go_wp2_with fail
                refine (T2.str ecl g3).mono ?_
                rintro e z3 ⟨rfl, T3⟩
                have u3x := bx T3 3 _ rfl
                clear T2 u2x
                go_wp2_with fail
                refine (T3.uv eseq g4).mono ?_
                rintro e z4 ⟨rfl, T4⟩
                have u4x := bx T4 4 _ rfl
                have hp4 : BytesAt z4 ap eps := fun i hi => by
                  obtain ⟨b, off, e, h1, h2⟩ := hpb i hi
                  have hb0 := hpl b off e (by omega)
                  exact ⟨b, off, e, Nat.lt_of_lt_of_le h1 T4.size, by rw [T4.cell _ h1 (by omega)]; exact h2⟩
                clear T3 u3x bx hpb
                go_wp2_with fail
                refine (T4.bytes ap cp eps g5 hp4 hpn).mono ?_
                rintro e z5 ⟨rfl, T5⟩
                have S2 := S.join T5
                clear T4 T5 u4x hp4 hpn hpl
                go_wp2
                go_roundw
                case rel => exact ⟨k + 1, by omega, by go_num, S2⟩
                case measure => simp [intOf]; omega
              · obtain rfl : k = entries.length := by omega
                rw [List.drop_length] at S
                have S' : St w2 (w.heap.size + 1) q cap os (uv ends.length ++ encEnds ends) wr := S
                have dc := mc S 6 _ rfl
                clear S Sb
                go_wp2_with fail
                refine (S'.uv ends.length (by omega)).mono ?_
                rintro e y2 ⟨rfl, Sc⟩
                clear dc
                have dc := mc Sc 6 _ rfl
                clear S'
                go_wp2
                go_loopw [227, 13] (fun i _ wr => ∃ k : Nat, k ≤ ends.length ∧ i = .int .i64 k ∧ St w2 (w.heap.size + 1) q cap os (encEnds (ends.drop k)) wr) (fun i _ _ => ends.length - (intOf i).toNat)
                case atStart => exact ⟨0, Nat.zero_le _, rfl, Sc⟩
                case round =>
                  obtain ⟨k, hk, rfl, S⟩ := hrel
                  clear dc
                  have dc := mc S 6 _ rfl
                  by_cases hlt : k < ends.length
                  · obtain ⟨b, off, rfl, hbl, hc⟩ := hEd k hlt
                    have hcx : wr.cell? ⟨b, off + k, none⟩ = some (.int .u64 ((ends.getD k 0 : Nat) : Int)) := ((ag S).cell hbl _).trans hc
                    have hfe : ends.getD k 0 < 18446744073709551616 := fn _ (by simp [List.getD, List.getElem?_eq_getElem hlt])
                    rw [encEnds_cons ends k hlt] at S
                    generalize ends.getD k 0 = E at *
                    clear hc
                    go_wp2_with fail
                    refine (S.uv E hfe).mono ?_
                    rintro e y3 ⟨rfl, Sd⟩
                    clear S hcx
                    go_wp2
                    go_roundw
                    case rel => exact ⟨k + 1, by omega, by go_num, Sd⟩
                    case measure => simp [intOf]; omega
                  · obtain rfl : k = ends.length := by omega
                    rw [List.drop_length] at S
                    have S' : St w2 (w.heap.size + 1) q cap os [] wr := S
                    obtain ⟨k1, k2⟩ := S'.done
                    have hfin : Below w.heap.size w wr := by
                      obtain ⟨_, _, hg, _⟩ := S'
                      exact hb2.trans ⟨hg.os, hg.tape, hg.output, hg.size, fun j hj => hg.block j (by omega) (fun e => by cases e; omega)⟩
                    clear S S' Sc
                    go_wp2
                    go_ret
                    exact ⟨rfl, hfin⟩
end Go.Proofs.Qxb6616158a
