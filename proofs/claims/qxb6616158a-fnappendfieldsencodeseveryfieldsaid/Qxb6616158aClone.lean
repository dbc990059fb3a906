import Derived.Test.Qxb6616158aFld
import Derived.Laws.CopyOwn
namespace Go.Proofs.Qxb6616158a
open Go.RowKit

theorem Try.size5 : (Try.prog.info? 5).map (·.size) = some 1 := by kernel_rfl
theorem Try.size22 : (Try.prog.info? 22).map (·.size) = some 1 := by kernel_rfl
theorem Try.info22 : (Try.prog.info? 22).map (fun i => (i.zero, i.size, i.bytes)) = some (some (.int .u64 0), 1, 8) := by kernel_rfl

theorem own_block {w : World} {g e n : Nat} {xs : List Value} (h : w.ownsRow g e 1 (.slice (some ⟨g, 0, none⟩) n n) n xs) : ∃ cur : Array Value, w.heap[g]? = some (.cells cur e (0, 0)) ∧ cur.size = n := by
  obtain ⟨_, h2⟩ := h
  rcases h2 with ⟨h2, _⟩ | ⟨g', cap, cur, hv, _, hh, _, _, hs, _⟩
  · cases h2
  · cases hv
    exact ⟨cur, hh, by omega⟩
theorem splice_all {α : Type} (L cs : List α) (h : L.length = cs.length) : splice L 0 cs = cs := by
  unfold splice
  rw [Nat.zero_add, List.drop_eq_nil_of_le (by omega)]
  simp
theorem own_of_block {w : World} {g e n : Nat} {xs : List Value} (h : w.heap[g]? = some (.cells xs.toArray e (0, 0))) (hn : xs.length = n) (hm : n ≤ maxLen) : w.ownsRow g e 1 (.slice (some ⟨g, 0, none⟩) n n) n xs :=
  ⟨by omega, .inr ⟨g, n, xs.toArray, rfl, Nat.le_refl _, h, Nat.le_refl _, hm, by simp; omega, by simp [← hn]⟩⟩

/-- What a clone leaves: a new row with the same elements (nil of nil). -/
def CPost (e : TypeId) (xs : List Value) (w : World) (en : Ending) (w' : World) : Prop :=
  ∃ a c, en = .returned (.slice a xs.length c) ∧ (a = none → xs = [] ∧ c = 0) ∧ w'.ownsRow w.heap.size e 1 (.slice a xs.length c) xs.length xs ∧ Below w.heap.size w w'

set_option maxRecDepth 100000 in
set_option maxHeartbeats 1000000 in
theorem clone_bytes (a : Option Addr) (ps : List Nat) (c : Nat) (w : World) (ha : a = none → ps = [] ∧ c = 0) (hps : BytesAt w a ps) (hl : ps.length ≤ 1048576) :
    Calls Try.prog 10 #[.slice a ps.length c] w (CPost 5 (bv ps) w) := by
  obtain ⟨i0, hi, hz0, hz1, hz2⟩ := info_parts Try.info5
  have hbl := bv_length ps
  cases a with
  | none =>
    obtain ⟨rfl, rfl⟩ := ha rfl
    have hnil := fun (w : World) => Lib.run_eql_slice_nil (P := Try.prog) w 28 5 none 0 0 0 0 Try.underlying28
    go_enter Try.func10, Try.ntmps10
    go_wp2
    go_ret
    exact ⟨none, 0, rfl, fun _ => ⟨rfl, rfl⟩, World.ownsRow_nil _ _ _ _, Below.refl _ _⟩
  | some ad =>
    have hnil := fun (w : World) => Lib.run_eql_slice_nil (P := Try.prog) w 28 5 (some ad) ps.length c 0 0 Try.underlying28
    go_enter Try.func10, Try.ntmps10
    go_wp2_with (first
      | (refine wpList_make_full _ rfl _ _ 28 rfl w.heap.size 5 i0 _ 1 Try.underlying28 hi hz0 hz1 .i64 .i64 _ _ ps.length rfl rfl rfl rfl (by rw [hz2]; omega) (by unfold maxLen; omega) (Nat.le_refl _) ?_; intro w1 hown hgr; obtain ⟨cur, hcur, hcs⟩ := own_block hown; have hb1 : Below w.heap.size w w1 := (Below.refl _ _).grown hgr (Nat.le_refl _) (fun k h => by cases h); clear hown hgr)
      | (refine wpList_copy_splice rfl (.tmp 9) (.tmp 10) 28 28 rfl 5 Try.underlying28 Try.size5 _ _ ps.length ps.length ps.length c rfl rfl w.heap.size 0 cur.toList 5 (by simpa using hcur) (bv ps) (by rw [hbl]; exact (Nat.min_self _).symm) (fun _ => ⟨rfl, ad, rfl, (hps.below hb1 (fun b off e h => by obtain ⟨b', off', e', h', _⟩ := hps 0 h; rw [e] at e'; cases e'; exact h')).cells⟩) (by rw [hbl]; simp; omega) (bv_one ps) w.heap.size w hb1 (Nat.le_refl _) ?_; intro w2 hg2 hb2))
    go_ret
    have h2 := hg2.out
    rw [splice_all _ _ (by rw [hbl]; simpa using hcs)] at h2
    refine ⟨some ⟨w.heap.size, 0, none⟩, ps.length, by rw [hbl]; rfl, fun h => (by cases h), ?_, hb2⟩
    rw [hbl]
    exact own_of_block h2 hbl (by unfold maxLen; omega)

/-- Numbers as cells; in memory. -/
def nv (xs : List Nat) : List Value := xs.map fun (n : Nat) => Value.int .u64 (n : Int)
theorem nv_length (xs : List Nat) : (nv xs).length = xs.length := by simp [nv]
theorem nv_one (ps : List Nat) : ∀ u ∈ nv ps, u.oneCell' = true := by
  intro u hu
  simp only [nv, List.mem_map] at hu
  obtain ⟨n, _, rfl⟩ := hu
  rfl
def NumsAt (w : World) (a : Option Addr) (ps : List Nat) : Prop :=
  ∀ i, i < ps.length → ∃ b off, a = some ⟨b, off, none⟩ ∧ b < w.heap.size ∧ w.cell? ⟨b, off + i, none⟩ = some (.int .u64 ((ps.getD i 0 : Nat) : Int))
theorem NumsAt.below {B : Nat} {w w' : World} {a : Option Addr} {ps : List Nat} (h : NumsAt w a ps) (hb : Below B w w') (hlo : ∀ b off, a = some ⟨b, off, none⟩ → 0 < ps.length → b < B) : NumsAt w' a ps := by
  intro i hi
  obtain ⟨b, off, rfl, h1, h2⟩ := h i hi
  exact ⟨b, off, rfl, Nat.lt_of_lt_of_le h1 hb.size, by rw [hb.cell (p := ⟨b, off + i, none⟩) (hlo b off rfl (by omega))]; exact h2⟩
theorem NumsAt.cells {w : World} {ad : Addr} {ps : List Nat} (h : NumsAt w (some ad) ps) : ∀ j u, (nv ps)[j]? = some u → w.cell? (ad.add j) = some u := by
  intro j u hj
  have hj' : j < ps.length := by
    rcases Nat.lt_or_ge j ps.length with h | h
    · exact h
    · rw [List.getElem?_eq_none (by rw [nv_length]; exact h)] at hj; cases hj
  obtain ⟨b, off, e, _, h2⟩ := h j hj'
  cases e
  have e : (⟨b, off, none⟩ : Addr).add j = ⟨b, off + j, none⟩ := by cases j <;> simp [Addr.add]
  rw [e, h2, ← hj]
  simp [nv, List.getD, List.getElem?_eq_getElem hj']

set_option maxRecDepth 100000 in
set_option maxHeartbeats 1000000 in
theorem clone_nums (a : Option Addr) (ps : List Nat) (c : Nat) (w : World) (ha : a = none → ps = [] ∧ c = 0) (hps : NumsAt w a ps) (hl : ps.length ≤ 1048576) :
    Calls Try.prog 16 #[.slice a ps.length c] w (CPost 22 (nv ps) w) := by
  obtain ⟨i0, hi, hz0, hz1, hz2⟩ := info_parts Try.info22
  have hbl := nv_length ps
  cases a with
  | none =>
    obtain ⟨rfl, rfl⟩ := ha rfl
    have hnil := fun (w : World) => Lib.run_eql_slice_nil (P := Try.prog) w 24 22 none 0 0 0 0 Try.underlying24
    go_enter Try.func16, Try.ntmps16
    go_wp2
    go_ret
    exact ⟨none, 0, rfl, fun _ => ⟨rfl, rfl⟩, World.ownsRow_nil _ _ _ _, Below.refl _ _⟩
  | some ad =>
    have hnil := fun (w : World) => Lib.run_eql_slice_nil (P := Try.prog) w 24 22 (some ad) ps.length c 0 0 Try.underlying24
    go_enter Try.func16, Try.ntmps16
    go_wp2_with (first
      | (refine wpList_make_full _ rfl _ _ 24 rfl w.heap.size 22 i0 _ 1 Try.underlying24 hi hz0 hz1 .i64 .i64 _ _ ps.length rfl rfl rfl rfl (by rw [hz2]; omega) (by unfold maxLen; omega) (Nat.le_refl _) ?_; intro w1 hown hgr; obtain ⟨cur, hcur, hcs⟩ := own_block hown; have hb1 : Below w.heap.size w w1 := (Below.refl _ _).grown hgr (Nat.le_refl _) (fun k h => by cases h); clear hown hgr)
      | (refine wpList_copy_splice rfl (.tmp 9) (.tmp 10) 24 24 rfl 22 Try.underlying24 Try.size22 _ _ ps.length ps.length ps.length c rfl rfl w.heap.size 0 cur.toList 22 (by simpa using hcur) (nv ps) (by rw [hbl]; exact (Nat.min_self _).symm) (fun _ => ⟨rfl, ad, rfl, (hps.below hb1 (fun b off e h => by obtain ⟨b', off', e', h', _⟩ := hps 0 h; rw [e] at e'; cases e'; exact h')).cells⟩) (by rw [hbl]; simp; omega) (nv_one ps) w.heap.size w hb1 (Nat.le_refl _) ?_; intro w2 hg2 hb2))
    go_ret
    have h2 := hg2.out
    rw [splice_all _ _ (by rw [hbl]; simpa using hcs)] at h2
    refine ⟨some ⟨w.heap.size, 0, none⟩, ps.length, by rw [hbl]; rfl, fun h => (by cases h), ?_, hb2⟩
    rw [hbl]
    exact own_of_block h2 hbl (by unfold maxLen; omega)

end Go.Proofs.Qxb6616158a
