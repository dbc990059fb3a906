import Derived.Test.Qxb6616158aProg
import Derived.Test.Qxb6616158aPlain
import Derived.WalkKit
import Derived.Below
import Derived.OneCell
import Derived.WalkSmall
import Derived.OwnWalk
import Derived.ArgAppend
import Derived.Laws.Rows
import Derived.WalkSpells
import Derived.Laws.BitsAllLaws
import Derived.Laws.AppendOwnNone
import Derived.Laws.IdiomStrings
namespace Go.Proofs.Qxb6616158a
open Go.RowKit

/-- Bytes as cells. -/
def bv (bs : List Nat) : List Value := bs.map fun (n : Nat) => Value.int .u8 (n : Int)
theorem bv_length (bs : List Nat) : (bv bs).length = bs.length := by simp [bv]
theorem bv_append (a b : List Nat) : bv (a ++ b) = bv a ++ bv b := by simp [bv]

/-- What is owned has stayed where it was, or lies in a block that is new since w. -/
def Moved (w : World) (v v' : Value) : Prop := v'.ownBlock = v.ownBlock ∨ ∀ k, v'.ownBlock = some k → w.heap.size ≤ k

/-- An append to a row of the call's own: the law with its frame told to the end. -/
theorem wpList_append_row {P : Program} (w : World) {ops : Array Oper} {rest : List Oper} {o : Oper} {a : Act} {Q : Exit → Act → World → Prop} (hgd : o.guard = none) (s x : Operand) (t : TypeId)
    (ho : o.op = .call { callee := .builtin .append, args := #[s, x], argTypes := #[t, t] })
    (base : Nat) (e : TypeId) (i : TypeInfo) (z : Value) (size bytes : Nat) (ht : P.underlying t = some (.slice e)) (hi : P.info? e = some i) (hz : i.zero = some z)
    (hsize : i.size = size) (hby : i.bytes = bytes) (hzs : z.cells.size = size) (hsz : 0 < size)
    (v : Value) (n : Nat) (xs : List Value) (hs : a.eval s = v) (hown : w.ownsRow base e size v n xs)
    (ad : Addr) (m c : Nat) (news : List Value) (hx : a.eval x = .slice (some ad) m c) (hl : news.length = m * size) (hnews : ∀ j u, news[j]? = some u → w.cell? (ad.add j) = some u) (h1 : ∀ u ∈ news, u.oneCell' = true)
    (h63 : n + m ≤ maxLen) (hbytes : (n + m) * bytes ≤ 140737488355328) (hbase : base ≤ w.heap.size)
    (h : ∀ v' w', w'.ownsRow base e size v' (n + m) (xs ++ news) → w.grownBy w' v.ownBlock → Moved w v v' → wpList P ops Q rest (a.put o.dst v') w') : wpList P ops Q (o :: rest) a w := by
  have up : ∀ {v' : Value} {w' : World} {ys : List Value} {k : Nat}, w'.ownsRow w.heap.size e size v' k ys → w'.ownsRow base e size v' k ys := fun hh => by
    obtain ⟨a1, a2⟩ := hh
    refine ⟨a1, ?_⟩
    rcases a2 with a2 | ⟨g, cap, cur, b1, b2, b3⟩
    · exact .inl a2
    · exact .inr ⟨g, cap, cur, b1, by omega, b3⟩
  have gr : ∀ {w' : World} {r : Option Nat}, w.grownBy w' none → w.grownBy w' r := fun hh => ⟨hh.os, hh.tape, hh.output, hh.size, fun k hk _ => hh.block k hk (by simp)⟩
  have hown' := hown
  obtain ⟨hlen, h2⟩ := hown
  rcases h2 with ⟨rfl, rfl⟩ | ⟨g, cap, cur, rfl, hg, hh, hnc, hcm, hcs, htk⟩
  · have hxs : xs = [] := List.eq_nil_of_length_eq_zero (by simpa using hlen)
    subst hxs
    by_cases hm : m = 0
    · subst hm
      refine wpList_append_own w hgd s x t ho base e i z size bytes ht hi hz hsize hby hzs hsz _ 0 [] hs hown' ad 0 c news hx hl hnews h1 h63 hbytes hbase ?_
      intro v' w' r1 r2 r3
      exact h v' w' r1 r2 (.inl (by rw [r3.2 ⟨rfl, rfl⟩]))
    refine wpList_append_grows w hgd s x t ho e i z size bytes ht hi hz hsize hby hzs hsz none 0 0 [] hs (fun _ => ⟨rfl, rfl⟩) (by simp) (fun b hb => by cases hb) ad m c news hx hl hnews h1 (by omega) h63 hbytes ?_
    intro v' w' r1 r2
    exact h v' w' (up r1) (gr r2) (.inr fun k hk => (r1.lt k hk).1)
  · by_cases hroom : n + m ≤ cap
    · refine wpList_append_fits w hgd s x t ho base e i size ht hi hsize g n cap xs hs hown' ad m c news hx hl hnews h1 hroom ?_
      intro w' r1 r2
      exact h _ w' r1 r2 (.inl rfl)
    · refine wpList_append_grows w hgd s x t ho e i z size bytes ht hi hz hsize hby hzs hsz (some ⟨g, 0, none⟩) n cap xs hs (fun hb => by cases hb) hlen (fun b hb j u hj => ?_) ad m c news hx hl hnews h1 (by omega) h63 hbytes ?_
      · cases hb
        exact hown'.cells rfl j u hj
      intro v' w' r1 r2
      exact h v' w' (up r1) (gr r2) (.inr fun k hk => (r1.lt k hk).1)

theorem Try.info5 : (Try.prog.info? 5).map (fun i => (i.zero, i.size, i.bytes)) = some (some (.int .u8 0), 1, 1) := by kernel_rfl

theorem one_cells (w : World) (n : Int) : ∀ j u, [Value.int .u8 n][j]? = some u → (w.alloc (.cells #[.int .u8 n] 5)).cell? ((⟨w.heap.size, 0, none⟩ : Addr).add j) = some u := by
  intro j u hj
  match j, hj with
  | 0, hj => simp at hj; subst hj; simp [Addr.add]
theorem one_one (n : Int) : ∀ u ∈ [Value.int .u8 n], u.oneCell' = true := by intro u hu; simp at hu; subst hu; rfl

set_option maxRecDepth 100000 in
theorem or_fact : ∀ a : Fin 256, (a.val ||| 128) = a.val % 128 + 128 := by decide
theorem byte_more (z : Nat) : bits BinOp.or IntKind.u8 ((z : Int) % 256) 128 = ((z % 128 + 128 : Nat) : Int) := by
  have h := u8_or_nat (z % 256) 128 (by omega) (by omega)
  have h2 := or_fact ⟨z % 256, by omega⟩
  simp only at h2
  rw [h2] at h
  have e : ((z : Int) % 256) = ((z % 256 : Nat) : Int) := by omega
  rw [e]
  refine h.trans ?_
  omega

theorem Moved.trans {w w1 : World} {v v1 v2 : Value} (h : Moved w v v1) (hs : w.heap.size ≤ w1.heap.size) (k : Moved w1 v1 v2) : Moved w v v2 := by
  rcases k with k | k
  · rcases h with h | h
    · exact .inl (k.trans h)
    · exact .inr fun b hb => h b (by rw [← k]; exact hb)
  · exact .inr fun b hb => Nat.le_trans hs (k b hb)
theorem grown_trans {w w1 w2 : World} {v v1 : Value} (h : w.grownBy w1 v.ownBlock) (m : Moved w v v1) (k : w1.grownBy w2 v1.ownBlock) : w.grownBy w2 v.ownBlock := by
  refine ⟨k.os.trans h.os, k.tape.trans h.tape, k.output.trans h.output, Nat.le_trans h.size k.size, fun b hb hne => ?_⟩
  rw [k.block b (Nat.lt_of_lt_of_le hb h.size) ?_, h.block b hb hne]
  intro e
  rcases m with m | m
  · exact hne (by rw [e, m])
  · have := m b e.symm; omega
theorem grown_alloc {w w' : World} {o : Obj} {r : Option Nat} (k : (w.alloc o).grownBy w' r) : w.grownBy w' r :=
  ⟨k.os, k.tape, k.output, by have := k.size; simp at this; omega, fun b hb hne => by rw [k.block b (by simp; omega) hne]; exact Below.heap_alloc _ _ _ hb⟩
theorem moved_alloc {w : World} {o : Obj} {v v' : Value} (k : Moved (w.alloc o) v v') : Moved w v v' := by
  rcases k with k | k
  · exact .inl k
  · exact .inr fun b hb => by have := k b hb; simp at this; omega

/-- What an encoder leaves: the row with more bytes; what it wrote to; where the row lies. -/
def EPost (base : Nat) (v : Value) (bs : List Nat) (w : World) (e : Ending) (w' : World) : Prop :=
  ∃ v', e = .returned v' ∧ w'.ownsRow base 5 1 v' bs.length (bv bs) ∧ w.grownBy w' v.ownBlock ∧ Moved w v v'

set_option maxRecDepth 100000 in
set_option maxHeartbeats 1000000 in
theorem append_uv (base : Nat) (v : Value) (bs : List Nat) (x : Nat) (w : World) (hown : w.ownsRow base 5 1 v bs.length (bv bs)) (hx : x < 18446744073709551616) (hl : bs.length ≤ 70368744177664) (hb : base ≤ w.heap.size) :
    Calls Try.prog 22 #[v, .int .u64 x] w (EPost base v (bs ++ uv x) w) := by
  obtain ⟨i0, hi, hz0, hz1, hz2⟩ := info_parts Try.info5
  go_enter Try.func22, Try.ntmps22
  go_wp2
  go_loopw [0, 1] (fun u y wr => ∃ (f z : Nat) (done : List Nat), y = .int .u64 z ∧ z < 18446744073709551616 ∧ z < 128 * 128 ^ f ∧ done.length + f = 9 ∧ Hid (done ++ uvf f z = uv x) ∧ wr.ownsRow base 5 1 u (bs ++ done).length (bv (bs ++ done)) ∧ w.grownBy wr v.ownBlock ∧ Moved w v u) (fun _ y _ => (intOf y).toNat)
  case atStart => exact ⟨9, x, [], rfl, hx, by omega, rfl, rfl, by simpa using hown, ⟨rfl, rfl, rfl, Nat.le_refl _, fun _ _ _ => rfl⟩, .inl rfl⟩
  case round =>
    obtain ⟨f, z, done, rfl, hz64, hzf, hdl, hd, hown, hgr, hmv⟩ := hrel
    have hsz := hgr.size
    have hll : (bs ++ done).length = bs.length + done.length := List.length_append
    by_cases hz : z < 128
    · have HE : Hid (done ++ [z] = uv x) := by have h := hd.out; rw [uvf_lt f z hz] at h; exact h
      have hzi : ((z : Int) % 256) = (z : Int) := by omega
      go_wp2_with (at_builtin; refine wpList_append_row _ rfl _ _ 28 rfl base 5 i0 _ 1 1 Try.underlying28 hi hz0 hz1 hz2 rfl (by decide) _ _ _ rfl (hown.alloc _) ⟨wr.heap.size, 0, none⟩ 1 1 _ rfl rfl (one_cells wr _) (one_one _) (by unfold maxLen; omega) (by omega) (by simp; omega) ?_; intro v' w1 hown1 hgr1 hmv1)
      go_ret
      refine ⟨v', rfl, ?_, grown_trans hgr hmv (grown_alloc hgr1), hmv.trans hsz (moved_alloc hmv1)⟩
      rw [← HE.out, ← List.append_assoc, bv_append, List.length_append]
      exact hown1
    · obtain ⟨f, rfl⟩ : ∃ g, f = g + 1 := by
        cases f with
        | zero => simp at hzf; omega
        | succ g => exact ⟨g, rfl⟩
      have HE : Hid ((done ++ [z % 128 + 128]) ++ uvf f (z / 128) = uv x) := by
        have h := hd.out; rw [uvf_ge f z hz] at h; rw [List.append_assoc]; exact h
      have hzf2 : z / 128 < 128 * 128 ^ f := by rw [Nat.pow_succ] at hzf; omega
      clear hzf
      go_wp2_with (at_builtin; refine wpList_append_row _ rfl _ _ 28 rfl base 5 i0 _ 1 1 Try.underlying28 hi hz0 hz1 hz2 rfl (by decide) _ _ _ rfl (hown.alloc _) ⟨wr.heap.size, 0, none⟩ 1 1 _ rfl rfl (one_cells wr _) (one_one _) (by unfold maxLen; omega) (by omega) (by simp; omega) ?_; intro v' w1 hown1 hgr1 hmv1)
      have R1 : w1.ownsRow base 5 1 v' (bs ++ (done ++ [z % 128 + 128])).length (bv (bs ++ (done ++ [z % 128 + 128]))) := by
        rw [byte_more] at hown1
        rw [← List.append_assoc, bv_append, List.length_append]
        exact hown1
      go_roundw
      case rel => exact ⟨f, z / 128, done ++ [z % 128 + 128], by go_num, by omega, hzf2, by simp; omega, HE, R1, grown_trans hgr hmv (grown_alloc hgr1), hmv.trans hsz (moved_alloc hmv1)⟩
      case measure => simp [intOf]; omega

/-- Bytes in memory, as the walks see them. -/
def BytesAt (w : World) (a : Option Addr) (ps : List Nat) : Prop :=
  ∀ i, i < ps.length → ∃ b off, a = some ⟨b, off, none⟩ ∧ b < w.heap.size ∧ w.cell? ⟨b, off + i, none⟩ = some (.int .u8 ((ps.getD i 0 : Nat) : Int))

theorem BytesAt.kept {w w' : World} {a : Option Addr} {ps : List Nat} {r : Option Nat} (h : BytesAt w a ps) (hg : w.grownBy w' r) (hne : ∀ b off, a = some ⟨b, off, none⟩ → 0 < ps.length → some b ≠ r) : BytesAt w' a ps := by
  intro i hi
  obtain ⟨b, off, rfl, h1, h2⟩ := h i hi
  exact ⟨b, off, rfl, Nat.lt_of_lt_of_le h1 hg.size, by rw [World.cell?_of_block (w := w) (hg.block b h1 (hne b off rfl (by omega)))]; exact h2⟩
theorem BytesAt.below {B : Nat} {w w' : World} {a : Option Addr} {ps : List Nat} (h : BytesAt w a ps) (hb : Below B w w') (hlo : ∀ b off, a = some ⟨b, off, none⟩ → 0 < ps.length → b < B) : BytesAt w' a ps := by
  intro i hi
  obtain ⟨b, off, rfl, h1, h2⟩ := h i hi
  exact ⟨b, off, rfl, Nat.lt_of_lt_of_le h1 hb.size, by rw [hb.cell (p := ⟨b, off + i, none⟩) (hlo b off rfl (by omega))]; exact h2⟩
theorem BytesAt.cells {w : World} {ad : Addr} {ps : List Nat} (h : BytesAt w (some ad) ps) : ∀ j u, (bv ps)[j]? = some u → w.cell? (ad.add j) = some u := by
  intro j u hj
  have hj' : j < ps.length := by
    rcases Nat.lt_or_ge j ps.length with h | h
    · exact h
    · rw [List.getElem?_eq_none (by rw [bv_length]; exact h)] at hj; cases hj
  obtain ⟨b, off, e, _, h2⟩ := h j hj'
  cases e
  have e : (⟨b, off, none⟩ : Addr).add j = ⟨b, off + j, none⟩ := by cases j <;> simp [Addr.add]
  rw [e, h2, ← hj]
  simp [bv, List.getD, List.getElem?_eq_getElem hj']
theorem bv_one (ps : List Nat) : ∀ u ∈ bv ps, u.oneCell' = true := by
  intro u hu
  simp only [bv, List.mem_map] at hu
  obtain ⟨n, _, rfl⟩ := hu
  rfl

theorem EPost.trans {base : Nat} {v : Value} {bs : List Nat} {w w1 w' : World} {v1 : Value} {e : Ending} (h1 : w.grownBy w1 v.ownBlock) (m1 : Moved w v v1) (h : EPost base v1 bs w1 e w') : EPost base v bs w e w' := by
  obtain ⟨v', rfl, h2, h3, h4⟩ := h
  exact ⟨v', rfl, h2, grown_trans h1 m1 h3, m1.trans h1.size h4⟩

/-- codec.AppendBool. -/
theorem append_bool (base : Nat) (v : Value) (bs : List Nat) (b : Bool) (w : World) (hown : w.ownsRow base 5 1 v bs.length (bv bs)) (hl : bs.length ≤ 70368744177664) (hb : base ≤ w.heap.size) :
    Calls Try.prog 23 #[v, .bool b] w (EPost base v (bs ++ [if b then 1 else 0]) w) := by
  obtain ⟨i0, hi, hz0, hz1, hz2⟩ := info_parts Try.info5
  cases b
  all_goals
    go_enter Try.func23, Try.ntmps23
    go_wp2_with (at_builtin; refine wpList_append_row _ rfl _ _ 28 rfl base 5 i0 _ 1 1 Try.underlying28 hi hz0 hz1 hz2 rfl (by decide) _ _ _ rfl (hown.alloc _) ⟨w.heap.size, 0, none⟩ 1 1 _ rfl rfl (one_cells w _) (one_one _) (by unfold maxLen; omega) (by omega) (by simp; omega) ?_; intro v' w1 hown1 hgr1 hmv1)
    go_ret
    refine ⟨v', rfl, ?_, grown_alloc hgr1, moved_alloc hmv1⟩
    rw [bv_append, List.length_append]
    exact hown1

set_option maxRecDepth 100000 in
set_option maxHeartbeats 1000000 in
/-- codec.AppendBytes. -/
theorem append_bytes (base : Nat) (v : Value) (bs : List Nat) (a : Option Addr) (ps : List Nat) (c : Nat) (w : World) (hown : w.ownsRow base 5 1 v bs.length (bv bs)) (ha : a = none → ps = [] ∧ c = 0) (hps : BytesAt w a ps)
    (hne : ∀ b off, a = some ⟨b, off, none⟩ → 0 < ps.length → some b ≠ v.ownBlock) (hl : bs.length ≤ 35184372088832) (hpl : ps.length ≤ 35184372088832) (hb : base ≤ w.heap.size) :
    Calls Try.prog 28 #[v, .slice a ps.length c] w (EPost base v (bs ++ encBytes ps) w) := by
  obtain ⟨i0, hi, hz0, hz1, hz2⟩ := info_parts Try.info5
  go_enter Try.func28, Try.ntmps28
  go_wp2_with fail
  refine (append_uv base v bs ps.length w hown (by omega) (by omega) hb).mono ?_
  rintro e w1 ⟨v1, rfl, hown1, hgr1, hmv1⟩
  have hps1 := hps.kept hgr1 hne
  have hll : (bs ++ uv ps.length).length = bs.length + (uv ps.length).length := List.length_append
  have hul := uv_length ps.length
  have hz := hgr1.size
  have HL : Hid ((bs ++ encBytes ps) = (bs ++ uv ps.length) ++ ps) := by show _ = _; rw [encBytes, List.append_assoc]
  cases a with
  | none =>
    obtain ⟨rfl, rfl⟩ := ha rfl
    go_wp2_with (at_builtin; refine wpList_append_own_none rfl _ _ 28 rfl base 5 i0 1 Try.underlying28 hi _ _ _ rfl hown1 rfl ?_)
    go_ret
    refine ⟨v1, rfl, ?_, hgr1, hmv1⟩
    rw [HL.out, List.append_nil]
    exact hown1
  | some ad =>
    go_wp2_with (at_builtin; refine wpList_append_row _ rfl _ _ 28 rfl base 5 i0 _ 1 1 Try.underlying28 hi hz0 hz1 hz2 rfl (by decide) _ _ _ rfl hown1 ad ps.length c (bv ps) rfl (by rw [bv_length, Nat.mul_one]) hps1.cells (bv_one ps) (by unfold maxLen; omega) (by omega) (by omega) ?_; intro v' w2 hown2 hgr2 hmv2)
    go_ret
    refine ⟨v', rfl, ?_, grown_trans hgr1 hmv1 hgr2, hmv1.trans hz hmv2⟩
    rw [HL.out, bv_append, List.length_append]
    exact hown2
end Go.Proofs.Qxb6616158a
