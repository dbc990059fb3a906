import Derived.Test.Qxb6616158aRead
namespace Go.Proofs.Qxb6616158a
open Go.RowKit

/-- The reader has 'rest' before it; since w0 nothing but its own block has turned. -/
def St (w0 : World) (R q cap : Nat) (os rest : List Nat) (w : World) : Prop := ∃ i, Rd R q cap os i w ∧ w0.grownBy w (some R) ∧ os.drop i = rest ∧ i ≤ os.length

theorem drop_next {os l r : List Nat} {i : Nat} (h : os.drop i = l ++ r) : os.drop (i + l.length) = r := by rw [← List.drop_drop, h]; simp
theorem drop_next_le {os l r : List Nat} {i : Nat} (h : os.drop i = l ++ r) (hi : i ≤ os.length) : i + l.length ≤ os.length := by
  have := congrArg List.length h
  rw [List.length_drop, List.length_append] at this
  omega
theorem St.cell {w0 w : World} {R q cap : Nat} {os rest : List Nat} (h : St w0 R q cap os rest w) {k : Nat} (j : Nat) (hk : k < w0.heap.size) (hne : k ≠ R) : w.cell? ⟨k, j, none⟩ = w0.cell? ⟨k, j, none⟩ := by
  obtain ⟨i, _, hg, _⟩ := h
  exact World.cell?_of_block (w := w0) (hg.block k hk (fun e => hne (by cases e; rfl)))
theorem St.size {w0 w : World} {R q cap : Nat} {os rest : List Nat} (h : St w0 R q cap os rest w) : w0.heap.size ≤ w.heap.size := by
  obtain ⟨i, _, hg, _⟩ := h
  exact hg.size
theorem St.lt {w0 w : World} {R q cap : Nat} {os rest : List Nat} (h : St w0 R q cap os rest w) : R < w.heap.size := by
  obtain ⟨i, hr, _⟩ := h
  exact lt_of_block hr.blk
theorem St.alloc {w0 w : World} {R q cap : Nat} {os rest : List Nat} (h : St w0 R q cap os rest w) (o : Obj) : St w0 R q cap os rest (w.alloc o) := by
  have hlt := h.lt
  obtain ⟨i, hr, hg, hd, hi⟩ := h
  refine ⟨i, ⟨by rw [Below.heap_alloc _ _ _ hlt]; exact hr.blk, fun j hj => by rw [World.cell?_of_block (w := w) (Below.heap_alloc _ _ _ hr.ql)]; exact hr.byt j hj, hr.ne, hr.le, by have := hr.ql; simp; omega⟩, ⟨hg.os, hg.tape, hg.output, by have := hg.size; simp; omega, fun k hk hne => by rw [Below.heap_alloc _ _ _ (Nat.lt_of_lt_of_le hk hg.size)]; exact hg.block k hk hne⟩, hd, hi⟩
theorem St.drew {w0 w : World} {R q cap : Nat} {os rest : List Nat} (h : St w0 R q cap os rest w) : St w0 R q cap os rest w.drew := by
  obtain ⟨i, hr, hg, hd, hi⟩ := h
  exact ⟨i, hr.kept rfl, grown_same hg rfl rfl rfl rfl, hd, hi⟩

/-- What a step leaves. -/
def SPost (w0 : World) (R q cap : Nat) (os rest : List Nat) (e : Ending) (w : World) : Prop := e = .returned (.tuple #[]) ∧ St w0 R q cap os rest w

theorem St.uv {w0 w : World} {R q cap : Nat} {os post : List Nat} (v : Nat) (h : St w0 R q cap os (_root_.Go.Proofs.Qxb6616158a.uv v ++ post) w) (hv : v < 18446744073709551616) : Calls Try.prog 17 #[.pointer (some ⟨R, 0, none⟩), .int .u64 v] w (SPost w0 R q cap os post) := by
  obtain ⟨i, hr, hg, hd, hi⟩ := h
  exact (read_uv R q cap os i v post w hr hv hd).mono fun e w' ⟨he, h1, h2⟩ => ⟨he, _, h1, grown_chain hg h2, drop_next hd, drop_next_le hd hi⟩
theorem St.one {w0 w : World} {R q cap : Nat} {os post : List Nat} (c : Nat) (h : St w0 R q cap os (c :: post) w) : Calls Try.prog 18 #[.pointer (some ⟨R, 0, none⟩), .int .u8 c] w (SPost w0 R q cap os post) := by
  obtain ⟨i, hr, hg, hd, hi⟩ := h
  exact (read_one R q cap os i c post w hr hd).mono fun e w' ⟨he, h1, h2⟩ => ⟨he, _, h1, grown_chain hg h2, drop_next (l := [c]) hd, drop_next_le (l := [c]) hd hi⟩
theorem St.str {w0 w : World} {R q cap : Nat} {os post : List Nat} (s : ByteArray) (h : St w0 R q cap os (encBytes (sb s) ++ post) w) (hs : s.size ≤ 1048576) : Calls Try.prog 20 #[.pointer (some ⟨R, 0, none⟩), .string s] w (SPost w0 R q cap os post) := by
  obtain ⟨i, hr, hg, hd, hi⟩ := h
  exact (read_str R q cap os i s post w hr hs hd hi).mono fun e w' ⟨he, h1, h2⟩ => ⟨he, _, h1, grown_chain hg h2, drop_next hd, drop_next_le hd hi⟩
theorem St.bytes {w0 w : World} {R q cap : Nat} {os post : List Nat} (a : Option Addr) (c : Nat) (ps : List Nat) (h : St w0 R q cap os (encBytes ps ++ post) w) (hs : ps.length ≤ 1048576) (hps : BytesAt w a ps) (hpn : ∀ b off, a = some ⟨b, off, none⟩ → 0 < ps.length → b ≠ R) : Calls Try.prog 21 #[.pointer (some ⟨R, 0, none⟩), .slice a ps.length c] w (SPost w0 R q cap os post) := by
  obtain ⟨i, hr, hg, hd, hi⟩ := h
  exact (read_bytes R q cap os i a c ps post w hr hs hps hpn hd hi).mono fun e w' ⟨he, h1, h2⟩ => ⟨he, _, h1, grown_chain hg h2, drop_next hd, drop_next_le hd hi⟩

theorem mark_any (c n : Bool) (w : World) : Calls Try.prog 19 #[.bool c, .bool n] w fun e w' => e = .returned (.int .u8 (mark c n : Nat)) ∧ w' = w := by
  cases c <;> cases n
  all_goals
    go_enter Try.func19, Try.ntmps19
    go_wp2
    go_ret
    exact ⟨rfl, rfl⟩
theorem St.done {w0 w : World} {R q cap : Nat} {os : List Nat} (h : St w0 R q cap os [] w) : w.cell? ⟨R, 1, none⟩ = some (.int .i64 (os.length : Int)) ∧ w.cell? ⟨R, 2, none⟩ = some (.bool true) := by
  obtain ⟨i, hr, hg, hd, hi⟩ := h
  have : i = os.length := by
    have := congrArg List.length hd
    rw [List.length_drop] at this
    simp at this
    omega
  subst this
  exact ⟨hr.c1, hr.c2⟩
theorem St.agree {w0 w : World} {R q cap B : Nat} {os rest : List Nat} (h : St w0 R q cap os rest w) (hB : B ≤ R) (hB2 : B ≤ w0.heap.size) : Agree B w0 w := fun k hk => by
  obtain ⟨i, _, hg, _⟩ := h
  exact hg.block k (by omega) (fun e => by cases e; omega)
end Go.Proofs.Qxb6616158a
