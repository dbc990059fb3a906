import Derived.Test.Qxb6616158aTo
import Derived.Deep.QuietTactic
import Derived.BigQuiet
namespace Go.Proofs.Qxb6616158a
open Go.RowKit

/-- The reader at block R: its buffer, its place, still ok; the buffer's bytes. -/
structure Rd (R q cap : Nat) (os : List Nat) (i : Nat) (w : World) : Prop where
  blk : w.heap[R]? = some (.cells #[.slice (some ⟨q, 0, none⟩) os.length cap, .int .i64 (i : Int), .bool true] 67 (0, 0))
  byt : ∀ j, j < os.length → w.cell? ⟨q, j, none⟩ = some (.int .u8 ((os.getD j 0 : Nat) : Int))
  ne : q ≠ R
  le : os.length ≤ 4611686018427387904
  ql : q < w.heap.size

theorem Rd.c0 {R q cap i : Nat} {os : List Nat} {w : World} (h : Rd R q cap os i w) : w.cell? ⟨R, 0, none⟩ = some (.slice (some ⟨q, 0, none⟩) os.length cap) := by rw [cell_of_row _ _ _ _ _ _ h.blk]; rfl
theorem Rd.c1 {R q cap i : Nat} {os : List Nat} {w : World} (h : Rd R q cap os i w) : w.cell? ⟨R, 1, none⟩ = some (.int .i64 (i : Int)) := by rw [cell_of_row _ _ _ _ _ _ h.blk]; rfl
theorem Rd.c2 {R q cap i : Nat} {os : List Nat} {w : World} (h : Rd R q cap os i w) : w.cell? ⟨R, 2, none⟩ = some (.bool true) := by rw [cell_of_row _ _ _ _ _ _ h.blk]; rfl
theorem Rd.kept {R q cap i : Nat} {os : List Nat} {w w' : World} (h : Rd R q cap os i w) (hh : w'.heap = w.heap) : Rd R q cap os i w' :=
  ⟨by rw [hh]; exact h.blk, fun j hj => by rw [World.cell?_of_block (w := w) (by rw [hh])]; exact h.byt j hj, h.ne, h.le, by rw [hh]; exact h.ql⟩
/-- The place moved on. -/
theorem Rd.move {R q cap i : Nat} {os : List Nat} {w : World} (h : Rd R q cap os i w) (j : Nat) : Rd R q cap os j (w.setCell ⟨R, 1, none⟩ (.int .i64 (j : Int))) :=
  ⟨by rw [cells_setCell h.blk]; rfl, fun k hk => by rw [cell_set_other_r _ _ _ _ _ _ h.ne]; exact h.byt k hk, h.ne, h.le, by simp [World.setCell]; exact h.ql⟩
where cell_set_other_r (w : World) (g j b k : Nat) (u : Value) (h : b ≠ g) : (w.setCell ⟨g, j, none⟩ u).cell? ⟨b, k, none⟩ = w.cell? ⟨b, k, none⟩ := World.cell?_of_block (w := w) (Below.heap_setCell w ⟨g, j, none⟩ u b h)
theorem Rd.again {R q cap i : Nat} {os : List Nat} {w : World} (h : Rd R q cap os i w) : Rd R q cap os i (w.setCell ⟨R, 2, none⟩ (.bool true)) :=
  ⟨by rw [cells_setCell h.blk]; rfl, fun k hk => by rw [Rd.move.cell_set_other_r _ _ _ _ _ _ h.ne]; exact h.byt k hk, h.ne, h.le, by simp [World.setCell]; exact h.ql⟩
theorem grown_set {w w' : World} {R j : Nat} {u : Value} (h : w.grownBy w' (some R)) : w.grownBy (w'.setCell ⟨R, j, none⟩ u) (some R) :=
  ⟨h.os, h.tape, h.output, by have := h.size; simp [World.setCell]; exact this, fun k hk hne => by rw [Below.heap_setCell w' ⟨R, j, none⟩ u k (fun e => hne (by rw [e])), h.block k hk hne]⟩
theorem grown_same {w w' w'' : World} {r : Option Nat} (h : w.grownBy w' r) (h1 : w''.os = w'.os) (h2 : w''.tape = w'.tape) (h3 : w''.output = w'.output) (h4 : w''.heap = w'.heap) : w.grownBy w'' r :=
  ⟨h1.trans h.os, h2.trans h.tape, h3.trans h.output, by rw [h4]; exact h.size, fun k hk hne => by rw [h4]; exact h.block k hk hne⟩
theorem grown_drewN {w w' : World} {r : Option Nat} (h : w.grownBy w' r) (n : Nat) : w.grownBy (w'.drewN n) r := grown_same h rfl rfl rfl rfl
theorem grown_refl (w : World) (r : Option Nat) : w.grownBy w r := ⟨rfl, rfl, rfl, Nat.le_refl _, fun _ _ _ => rfl⟩

/-- What a reader's step leaves. -/
def RPost (R q cap : Nat) (os : List Nat) (i : Nat) (w : World) (e : Ending) (w' : World) : Prop := e = .returned (.tuple #[]) ∧ Rd R q cap os i w' ∧ w.grownBy w' (some R)

theorem or_add (X c s : Nat) (hX : X < 2 ^ s) (h : X + c * 2 ^ s < 18446744073709551616) : bits BinOp.or IntKind.u64 (X : Int) (IntKind.u64.wrap ((c : Int) * 2 ^ s)) = ((X + c * 2 ^ s : Nat) : Int) := by
  have e1 : IntKind.u64.wrap ((c : Int) * 2 ^ s) = ((c * 2 ^ s : Nat) : Int) := by
    have : ((c : Int) * 2 ^ s) = ((c * 2 ^ s : Nat) : Int) := by simp
    rw [this]
    show ((c * 2 ^ s : Nat) : Int) % 18446744073709551616 = _
    omega
  rw [e1, u64_or_nat X (c * 2 ^ s) (by omega) (by omega), Nat.or_comm, Nat.mul_comm, ← Nat.two_pow_add_eq_or_of_lt hX c]
  omega

theorem drop_head {os l : List Nat} {i b : Nat} (h : os.drop i = b :: l) : i < os.length ∧ os.getD i 0 = b ∧ os.drop (i + 1) = l := by
  have hi : i < os.length := by
    rcases Nat.lt_or_ge i os.length with h' | h'
    · exact h'
    · rw [List.drop_eq_nil_of_le h'] at h; cases h
  rw [List.drop_eq_getElem_cons hi] at h
  injection h with h1 h2
  exact ⟨hi, by simp [List.getD, List.getElem?_eq_getElem hi, h1], h2⟩

set_option maxRecDepth 100000 in
set_option maxHeartbeats 2000000 in
/-- r.uv(v), at a place where the encoding of v stands. -/
theorem read_uv (R q cap : Nat) (os : List Nat) (i v : Nat) (post : List Nat) (w : World) (hr : Rd R q cap os i w) (hv : v < 18446744073709551616) (hd : os.drop i = uv v ++ post) :
    Calls Try.prog 17 #[.pointer (some ⟨R, 0, none⟩), .int .u64 v] w (RPost R q cap os (i + (uv v).length) w) := by
  have c2 := hr.c2
  go_enter Try.func17, Try.ntmps17
  go_wp2
  go_loopw [4, 5, 6, 7] (fun x s k _ wr => ∃ (n z X : Nat), n ≤ 9 ∧ k = .int .i64 n ∧ s = .int .u64 (7 * n : Nat) ∧ x = .int .u64 X ∧ X < 2 ^ (7 * n) ∧ Hid (X + z * 2 ^ (7 * n) = v) ∧ (0 < n → 0 < z) ∧ Hid (os.drop (i + n) = uvf (9 - n) z ++ post) ∧ Hid ((uv v).length = n + (uvf (9 - n) z).length) ∧ Rd R q cap os (i + n) wr ∧ w.grownBy wr (some R)) (fun _ _ k _ _ => 10 - (intOf k).toNat)
  case atStart => exact ⟨0, v, 0, by omega, rfl, rfl, rfl, by simp, by show _ = _; simp, by omega, hd, by show _ = _; simp [uv], hr, grown_refl _ _⟩
  case round =>
    obtain ⟨n, z, X, hn, rfl, rfl, rfl, hX, hS, hz0, hdr, hlen, hrr, hgr⟩ := hrel
    have r0 := hrr.c0
    have r1 := hrr.c1
    have r2 := hrr.c2
    have rf := cells_free hrr.blk
    by_cases hz : z < 128
    · have hd1 := hdr.out
      rw [uvf_lt _ _ hz] at hd1
      obtain ⟨hlt, hb, _⟩ := drop_head hd1
      have hby := hrr.byt (i + n) hlt
      rw [hb] at hby
      have hle := hrr.le
      have hlt2 : ((i + n : Nat) : Int) < (os.length : Int) := by omega
      have hzi : (z : Int) < 128 := by omega
      have hle1 : (uv v).length = n + 1 := by have h := hlen.out; rw [uvf_lt _ _ hz] at h; exact h
      have hvS : X + z * 2 ^ (7 * n) = v := hS.out
      have hor := or_add X z (7 * n) hX (by omega)
      rw [hvS] at hor
      have hbt : (bits BinOp.or IntKind.u64 (X : Int) (IntKind.u64.wrap ((z : Int) * 2 ^ (7 * n))) == (v : Int)) = true := by rw [hor]; simp
      have HBT : Hid ((bits BinOp.or IntKind.u64 (X : Int) (IntKind.u64.wrap ((z : Int) * 2 ^ (7 * n))) == (v : Int)) = true) := hbt
      have HLE : Hid ((uv v).length = n + 1) := hle1
      clear hor hbt hle1 hd1 hb
      rcases (show n = 0 ∨ (0 < n ∧ n < 9) ∨ n = 9 by omega) with h0 | ⟨h0, h9⟩ | h9
      · subst h0
        simp only [Nat.add_zero] at r1 hby hlt hlt2
        have hX0 : X = 0 := by simpa using hX
        subst hX0
        obtain rfl : z = v := by simpa using hvS
        clear hvS
        go_wp2
        go_quiet (fail)
        go_wp2
        go_quiet (fail)
        go_wp2
        have hbt : (bits BinOp.or IntKind.u64 (0 : Int) (z : Int) == (z : Int)) = true := by
          have h := u64_or_nat 0 z (by omega) (by omega)
          rw [Nat.zero_or] at h
          have e0 : ((0 : Nat) : Int) = 0 := rfl
          rw [e0] at h
          rw [h]
          simp
        rw [hbt]
        refine bodyPost_ret (results_none Try.results17 _ _ _) rfl ⟨rfl, ?_, ?_⟩
        · rw [HLE.out]
          have e : ((i : Int) + 1) = ((i + (0 + 1) : Nat) : Int) := by omega
          rw [e]
          exact (((hrr.kept (w' := wr.drewN _) rfl).move (i + (0 + 1))).again)
        · exact grown_set (grown_set (grown_drewN hgr _))
      · have hzp := hz0 h0
        have t0 : decide ((0 : Int) < (n : Int)) = true := by simp; omega
        have t1 : ((z : Int) == 0) = false := by simp; omega
        have t2 : ((n : Int) == 9) = false := by simp; omega
        clear hvS
        go_wp2
        go_quiet (fail)
        go_wp2
        go_quiet (fail)
        go_wp2
        have hbt := HBT.out
        have hle1 := HLE.out
        rw [hbt]
        refine bodyPost_ret (results_none Try.results17 _ _ _) rfl ⟨rfl, ?_, ?_⟩
        · rw [hle1, ← Nat.add_assoc]
          have e : ((i : Int) + (n : Int) + 1) = ((i + n + 1 : Nat) : Int) := by omega
          rw [e]
          exact (((hrr.kept (w' := wr.drewN _) rfl).move (i + n + 1)).again)
        · exact grown_set (grown_set (grown_drewN hgr _))
      · subst h9
        have hzp := hz0 (by omega)
        have hz1 : z ≤ 1 := by
          have h2 : z * 2 ^ (7 * 9) < 18446744073709551616 := by omega
          have h3 : (2 : Nat) ^ (7 * 9) = 9223372036854775808 := by decide
          rw [h3] at h2
          omega
        have t1 : ((z : Int) == 0) = false := by simp; omega
        have t2 : ¬ (1 : Int) < (z : Int) := by omega
        have t3 : decide ((1 : Int) < (z : Int)) = false := by simp; omega
        clear hvS
        go_wp2
        go_quiet (fail)
        go_wp2
        go_quiet (fail)
        go_wp2
        have hbt : (bits BinOp.or IntKind.u64 (X : Int) ((z : Int) * 9223372036854775808) == (v : Int)) = true := by
          have e1 : IntKind.u64.wrap ((z : Int) * 2 ^ (7 * 9)) = (z : Int) * 9223372036854775808 := by
            show ((z : Int) * 2 ^ (7 * 9)) % 18446744073709551616 = _
            have h2 : (2 : Int) ^ (7 * 9) = 9223372036854775808 := by decide
            rw [h2]
            omega
          have h := HBT.out
          rw [e1] at h
          exact h
        rw [hbt]
        refine bodyPost_ret (results_none Try.results17 _ _ _) rfl ⟨rfl, ?_, ?_⟩
        · rw [HLE.out]
          have e : ((i : Int) + 9 + 1) = ((i + (9 + 1) : Nat) : Int) := by omega
          rw [e]
          exact (((hrr.kept (w' := wr.drewN _) rfl).move (i + (9 + 1))).again)
        · exact grown_set (grown_set (grown_drewN hgr _))
    · have hn8 : n < 9 := by
        rcases Nat.lt_or_ge n 9 with h | h
        · exact h
        · obtain rfl : n = 9 := by omega
          have hvS : X + z * 2 ^ (7 * 9) = v := hS.out
          have h3 : (2 : Nat) ^ (7 * 9) = 9223372036854775808 := by decide
          rw [h3] at hvS
          omega
      have hd1 := hdr.out
      rw [show 9 - n = (8 - n) + 1 by omega, uvf_ge _ _ hz] at hd1
      obtain ⟨hlt, hb, hd2⟩ := drop_head hd1
      have hby := hrr.byt (i + n) hlt
      rw [hb] at hby
      have hle := hrr.le
      have hlt2 : ((i + n : Nat) : Int) < (os.length : Int) := by omega
      have hmask : bits BinOp.and IntKind.u8 ((z % 128 + 128 : Nat) : Int) 127 = ((z % 128 : Nat) : Int) := by
        have h := bits_mask .u8 8 (by decide) wraps_u8 7 (by decide) ((z % 128 + 128 : Nat) : Int) (by omega) (by omega)
        refine h.trans ?_
        show ((z % 128 + 128 : Nat) : Int) % 2 ^ 7 = _
        have h2 : (2 : Int) ^ 7 = 128 := by decide
        rw [h2]
        omega
      have hp7 : (2 : Nat) ^ (7 * (n + 1)) = 2 ^ (7 * n) * 128 := by rw [Nat.mul_add, Nat.pow_add]
      have hvS : X + z * 2 ^ (7 * n) = v := hS.out
      have hsp : z * 2 ^ (7 * n) = (z % 128) * 2 ^ (7 * n) + (z / 128) * (2 ^ (7 * n) * 128) := by
        have h := Nat.div_add_mod z 128
        have h4 : (128 * (z / 128) + z % 128) * 2 ^ (7 * n) = (z % 128) * 2 ^ (7 * n) + (z / 128) * (2 ^ (7 * n) * 128) := by
          rw [Nat.add_mul, Nat.add_comm]
          congr 1
          rw [Nat.mul_comm 128, Nat.mul_assoc, Nat.mul_comm 128]
        rw [h] at h4
        exact h4
      have hor := or_add X (z % 128) (7 * n) hX (by omega)
      have H1 : Hid ((X + z % 128 * 2 ^ (7 * n)) + (z / 128) * 2 ^ (7 * (n + 1)) = v) := by show _ = _; rw [hp7]; omega
      have hX2 : X + z % 128 * 2 ^ (7 * n) < 2 ^ (7 * (n + 1)) := by
        rw [hp7]
        have : z % 128 * 2 ^ (7 * n) ≤ 127 * 2 ^ (7 * n) := Nat.mul_le_mul_right _ (by omega)
        omega
      have H2 : Hid (os.drop (i + (n + 1)) = uvf (9 - (n + 1)) (z / 128) ++ post) := by
        show _ = _
        rw [show 9 - (n + 1) = 8 - n by omega, ← Nat.add_assoc]
        exact hd2
      have H3 : Hid ((uv v).length = (n + 1) + (uvf (9 - (n + 1)) (z / 128)).length) := by
        show _ = _
        have h := hlen.out
        rw [show 9 - n = (8 - n) + 1 by omega, uvf_ge _ _ hz] at h
        rw [show 9 - (n + 1) = 8 - n by omega]
        simp only [List.length_cons] at h
        omega
      have HM : Hid (bits BinOp.or IntKind.u64 (X : Int) (IntKind.u64.wrap (((z % 128 : Nat) : Int) * 2 ^ (7 * n))) = ((X + z % 128 * 2 ^ (7 * n) : Nat) : Int)) := hor
      have hz1 : 0 < z / 128 := by omega
      have hcb : 128 ≤ z % 128 + 128 ∧ z % 128 + 128 < 256 := by omega
      have hm7 : z % 128 < 128 := by omega
      clear hor hsp hvS hp7 hd1 hd2 hb hX hS hdr hlen
      generalize X + z % 128 * 2 ^ (7 * n) = X2 at *
      generalize z % 128 + 128 = c at *
      generalize z % 128 = m at *
      obtain ⟨hc1, hc2⟩ := hcb
      have hc3 : ¬ (c : Int) < 128 := by omega
      go_wp2
      go_quiet (fail)
      go_wp2
      go_quiet (fail)
      go_wp2
      have e : ((i : Int) + (n : Int) + 1) = ((i + (n + 1) : Nat) : Int) := by omega
      rw [e]
      go_roundw
      case rel =>
        refine ⟨n + 1, z / 128, X2, by omega, by go_num, by go_num, ?_, hX2, H1, fun _ => hz1, H2, H3, (hrr.kept (w' := wr.drewN _) rfl).move (i + (n + 1)), grown_set (grown_drewN hgr _)⟩
        rw [← HM.out]
      case measure => simp [intOf]; omega

set_option maxRecDepth 100000 in
set_option maxHeartbeats 1000000 in
/-- r.one(c), at a place where c stands. -/
theorem read_one (R q cap : Nat) (os : List Nat) (i c : Nat) (post : List Nat) (w : World) (hr : Rd R q cap os i w) (hd : os.drop i = c :: post) :
    Calls Try.prog 18 #[.pointer (some ⟨R, 0, none⟩), .int .u8 c] w (RPost R q cap os (i + 1) w) := by
  have r0 := hr.c0
  have r1 := hr.c1
  have r2 := hr.c2
  have rf := cells_free hr.blk
  obtain ⟨hlt, hb, _⟩ := drop_head hd
  have hby := hr.byt i hlt
  rw [hb] at hby
  have hle := hr.le
  have g1 : decide ((os.length : Int) ≤ (i : Int)) = false := by simp; omega
  have hlt2 : (i : Int) < (os.length : Int) := by omega
  clear hd hb
  go_enter Try.func18, Try.ntmps18
  go_wp2
  go_quiet (fail)
  go_wp2
  go_end0
  refine ⟨rfl, ?_, grown_set (grown_drewN (grown_refl _ _) _)⟩
  have e : ((i : Int) + 1) = ((i + 1 : Nat) : Int) := by omega
  rw [e]
  exact (hr.kept (w' := w.drewN _) rfl).move (i + 1)

theorem drop_run {os l post : List Nat} {i : Nat} (h : os.drop i = l ++ post) : i + l.length ≤ os.length ∧ (∀ k, k < l.length → os.getD (i + k) 0 = l.getD k 0) ∧ os.drop (i + l.length) = post ∨ (l = [] ∧ os.length ≤ i) := by
  have hl : (os.drop i).length = l.length + post.length := by rw [h, List.length_append]
  rw [List.length_drop] at hl
  by_cases hle : i + l.length ≤ os.length
  · left
    refine ⟨hle, fun k hk => ?_, ?_⟩
    · have h1 : (os.drop i)[k]? = (l ++ post)[k]? := by rw [h]
      rw [List.getElem?_drop, List.getElem?_append_left hk] at h1
      simp [List.getD, h1]
    · rw [← List.drop_drop, h]; simp
  · right
    have : l.length = 0 := by omega
    exact ⟨List.eq_nil_of_length_eq_zero this, by omega⟩

theorem RPost.trans {R q cap j : Nat} {os : List Nat} {w w1 w' : World} {e : Ending} (h : w.grownBy w1 (some R)) (k : RPost R q cap os j w1 e w') : RPost R q cap os j w e w' :=
  ⟨k.1, k.2.1, ⟨k.2.2.os.trans h.os, k.2.2.tape.trans h.tape, k.2.2.output.trans h.output, Nat.le_trans h.size k.2.2.size, fun b hb hne => (k.2.2.block b (Nat.lt_of_lt_of_le hb h.size) hne).trans (h.block b hb hne)⟩⟩
theorem grown_chain {w w1 w2 : World} {r : Option Nat} (h : w.grownBy w1 r) (k : w1.grownBy w2 r) : w.grownBy w2 r :=
  ⟨k.os.trans h.os, k.tape.trans h.tape, k.output.trans h.output, Nat.le_trans h.size k.size, fun b hb hne => (k.block b (Nat.lt_of_lt_of_le hb h.size) hne).trans (h.block b hb hne)⟩

set_option maxRecDepth 100000 in
set_option maxHeartbeats 2000000 in
/-- r.str(s), at a place where its encoding stands. -/
theorem read_str (R q cap : Nat) (os : List Nat) (i : Nat) (s : ByteArray) (post : List Nat) (w : World) (hr : Rd R q cap os i w) (hs : s.size ≤ 1048576) (hd : os.drop i = encBytes (sb s) ++ post) (hil : i ≤ os.length) :
    Calls Try.prog 20 #[.pointer (some ⟨R, 0, none⟩), .string s] w (RPost R q cap os (i + (encBytes (sb s)).length) w) := by
  have hsl := sb_length s
  have hd1 : os.drop i = uv s.size ++ (sb s ++ post) := by rw [hd, encBytes, hsl, List.append_assoc]
  have HL : Hid ((encBytes (sb s)).length = (uv s.size).length + s.size) := by show _ = _; rw [encBytes, List.length_append, hsl]
  go_enter Try.func20, Try.ntmps20
  go_wp2_with fail
  refine (read_uv R q cap os i s.size (sb s ++ post) w hr (by omega) hd1).mono ?_
  rintro e w1 ⟨rfl, hr1, hg1⟩
  have hd2 : os.drop (i + (uv s.size).length) = sb s ++ post := by
    rw [← List.drop_drop, hd1]; simp
  have hil2 : i + (uv s.size).length ≤ os.length := by
    rcases drop_run hd1 with ⟨h, _⟩ | ⟨h, _⟩
    · exact h
    · rw [h]; simp; exact hil
  have hrun : i + (uv s.size).length + s.size ≤ os.length ∧ ∀ k (hk : k < s.size), os.getD (i + (uv s.size).length + k) 0 = (s[k]'hk).toNat := by
    rcases drop_run hd2 with ⟨h1, h2, _⟩ | ⟨h1, h2⟩
    · refine ⟨by rw [hsl] at h1; exact h1, fun k hk => ?_⟩
      rw [h2 k (by rw [hsl]; exact hk), sb_get s k hk]
      rfl
    · have : s.size = 0 := by rw [← hsl, h1]; rfl
      exact ⟨by omega, fun k hk => by omega⟩
  obtain ⟨hr2, hr3⟩ := hrun
  generalize hj : i + (uv s.size).length = j at *
  have HJ : Hid (i + (uv s.size).length = j) := hj
  clear hj
  have r0 := hr1.c0
  have r1 := hr1.c1
  have r2 := hr1.c2
  have rf := cells_free hr1.blk
  have hle := hr1.le
  have g1 : ¬ (os.length : Int) - (j : Int) < (s.size : Int) := by omega
  clear hd hd1 hd2 r2
  have r2 := hr1.c2
  go_wp2
  go_quiet (fail)
  go_wp2
  go_loopw [4] (fun t wr => ∃ k : Nat, k ≤ s.size ∧ t = .int .i64 k ∧ Rd R q cap os j wr ∧ w.grownBy wr (some R)) (fun t _ => s.size - (intOf t).toNat)
  case atStart => exact ⟨0, Nat.zero_le _, rfl, hr1.kept rfl, grown_drewN hg1 _⟩
  case round =>
    obtain ⟨k, hk, rfl, hrr, hgr⟩ := hrel
    clear r0 r1 r2 rf
    have r0 := hrr.c0
    have r1 := hrr.c1
    have r2 := hrr.c2
    have rf := cells_free hrr.blk
    by_cases hlt : k < s.size
    · have hby := hrr.byt (j + k) (by omega)
      rw [hr3 k hlt] at hby
      have hlt2 : ((j : Int) + (k : Int)) < (os.length : Int) := by omega
      clear hr3
      go_wp2
      go_quiet (fail)
      go_wp2
      go_roundw
      case rel => exact ⟨k + 1, by omega, by go_num, hrr.kept rfl, grown_drewN hgr _⟩
      case measure => simp [intOf]; omega
    · clear hr3
      go_wp2
      go_end0
      refine ⟨rfl, ?_, grown_set hgr⟩
      rw [HL.out, ← Nat.add_assoc, HJ.out]
      have e : ((j : Int) + (s.size : Int)) = ((j + s.size : Nat) : Int) := by omega
      rw [e]
      exact hrr.move (j + s.size)
set_option maxRecDepth 100000 in
set_option maxHeartbeats 2000000 in
/-- r.bytes(p), at a place where its encoding stands. -/
theorem read_bytes (R q cap : Nat) (os : List Nat) (i : Nat) (a : Option Addr) (c : Nat) (ps : List Nat) (post : List Nat) (w : World) (hr : Rd R q cap os i w) (hs : ps.length ≤ 1048576) (hps : BytesAt w a ps) (hpn : ∀ b off, a = some ⟨b, off, none⟩ → 0 < ps.length → b ≠ R) (hd : os.drop i = encBytes ps ++ post) (hil : i ≤ os.length) :
    Calls Try.prog 21 #[.pointer (some ⟨R, 0, none⟩), .slice a ps.length c] w (RPost R q cap os (i + (encBytes ps).length) w) := by
  have hd1 : os.drop i = uv ps.length ++ (ps ++ post) := by rw [hd, encBytes, List.append_assoc]
  have HL : Hid ((encBytes ps).length = (uv ps.length).length + ps.length) := by show _ = _; rw [encBytes, List.length_append]
  go_enter Try.func21, Try.ntmps21
  go_wp2_with fail
  refine (read_uv R q cap os i ps.length (ps ++ post) w hr (by omega) hd1).mono ?_
  rintro e w1 ⟨rfl, hr1, hg1⟩
  have hd2 : os.drop (i + (uv ps.length).length) = ps ++ post := by
    rw [← List.drop_drop, hd1]; simp
  have hil2 : i + (uv ps.length).length ≤ os.length := by
    rcases drop_run hd1 with ⟨h, _⟩ | ⟨h, _⟩
    · exact h
    · rw [h]; simp; exact hil
  have hrun : i + (uv ps.length).length + ps.length ≤ os.length ∧ ∀ k, k < ps.length → os.getD (i + (uv ps.length).length + k) 0 = ps.getD k 0 := by
    rcases drop_run hd2 with ⟨h1, h2, _⟩ | ⟨h1, h2⟩
    · exact ⟨h1, h2⟩
    · have : ps.length = 0 := by rw [h1]; rfl
      exact ⟨by omega, fun k hk => by omega⟩
  obtain ⟨hr2, hr3⟩ := hrun
  generalize hj : i + (uv ps.length).length = j at *
  have HJ : Hid (i + (uv ps.length).length = j) := hj
  clear hj
  have r0 := hr1.c0
  have r1 := hr1.c1
  have r2 := hr1.c2
  have rf := cells_free hr1.blk
  have hle := hr1.le
  have g1 : ¬ (os.length : Int) - (j : Int) < (ps.length : Int) := by omega
  clear hd hd1 hd2 r2
  have r2 := hr1.c2
  go_wp2
  go_quiet (fail)
  go_wp2
  go_loopw [4] (fun t wr => ∃ k : Nat, k ≤ ps.length ∧ t = .int .i64 k ∧ Rd R q cap os j wr ∧ w.grownBy wr (some R)) (fun t _ => ps.length - (intOf t).toNat)
  case atStart => exact ⟨0, Nat.zero_le _, rfl, hr1.kept rfl, grown_drewN hg1 _⟩
  case round =>
    obtain ⟨k, hk, rfl, hrr, hgr⟩ := hrel
    clear r0 r1 r2 rf
    have r0 := hrr.c0
    have r1 := hrr.c1
    have r2 := hrr.c2
    have rf := cells_free hrr.blk
    by_cases hlt : k < ps.length
    · have hby := hrr.byt (j + k) (by omega)
      rw [hr3 k hlt] at hby
      obtain ⟨b, off, rfl, hb1, hb2⟩ := hps k hlt
      have hb3 : wr.cell? ⟨b, off + k, none⟩ = some (.int .u8 ((ps.getD k 0 : Nat) : Int)) := (World.cell?_of_block (w := w) (hgr.block b hb1 (fun e => hpn b off rfl (by omega) (by cases e; rfl)))).trans hb2
      generalize ps.getD k 0 = B at *
      have hlt2 : ((j : Int) + (k : Int)) < (os.length : Int) := by omega
      clear hr3 hb2
      go_wp2
      go_quiet (fail)
      go_wp2
      go_roundw
      case rel => exact ⟨k + 1, by omega, by go_num, hrr.kept rfl, grown_drewN hgr _⟩
      case measure => simp [intOf]; omega
    · clear hr3
      go_wp2
      go_end0
      refine ⟨rfl, ?_, grown_set hgr⟩
      rw [HL.out, ← Nat.add_assoc, HJ.out]
      have e : ((j : Int) + (ps.length : Int)) = ((j + ps.length : Nat) : Int) := by omega
      rw [e]
      exact hrr.move (j + ps.length)
end Go.Proofs.Qxb6616158a
