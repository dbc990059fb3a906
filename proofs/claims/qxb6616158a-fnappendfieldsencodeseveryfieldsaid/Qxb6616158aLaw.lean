import Derived.Test.Qxb6616158aFields
import Derived.Test.Qxb6616158aToA
import Derived.Test.Qxb6616158aEncd
import Derived.Test.Qxb6616158aSize
import Derived.Test.Qxb6616158aAdd
namespace Go.Proofs.Qxb6616158a
open Go.RowKit

theorem fields8 (base : Nat) (v : Value) (bs : List Nat) (P : Nat) (A : Apd) (x : Int) (w : World) (hown : w.ownsRow base 5 1 v bs.length (bv bs)) (hb : base ≤ w.heap.size) (hA : ApdAt base w P A) (hf : A.fit) (hl : bs.length ≤ 1048576) :
    Calls Try.prog 8 #[.pointer (some ⟨P, 0, none⟩), v, .int .u64 x] w (EPost base v (bs ++ encApd A) w) := by
  go_enter Try.func8, Try.ntmps8
  go_wp2_with fail
  refine (append_fields base v bs P A x w hown hb hA hf hl).mono ?_
  rintro e w1 ⟨v1, rfl, h1, h2, h3⟩
  go_wp2
  go_ret
  exact ⟨v1, rfl, h1, h2, h3⟩

/-- The numbers within their kind. -/
def Apd.nums (A : Apd) : Prop := A.ticket < 18446744073709551616 ∧ A.epoch < 18446744073709551616 ∧ A.start < 18446744073709551616 ∧ A.prev < 18446744073709551616 ∧ A.prevEpoch < 18446744073709551616 ∧ A.commit < 18446744073709551616 ∧ A.held < 18446744073709551616 ∧
  A.changes < 18446744073709551616 ∧ A.changed < 18446744073709551616 ∧ A.read < 18446744073709551616 ∧ (∀ c, A.change = some c → c.number < 18446744073709551616 ∧ c.epoch < 18446744073709551616 ∧ c.after < 18446744073709551616 ∧ c.goneID < 18446744073709551616 ∧ c.group < 18446744073709551616 ∧ ∀ m ∈ c.members, m.id < 18446744073709551616) ∧
  (∀ e ∈ A.entries, e.pos < 18446744073709551616 ∧ e.epoch < 18446744073709551616 ∧ e.seq < 18446744073709551616) ∧ ∀ x ∈ A.ends, x < 18446744073709551616
theorem getD_of_mem {α : Type} {l : List α} {x d : α} (h : x ∈ l) : ∃ i, i < l.length ∧ l.getD i d = x := by
  obtain ⟨i, hi, rfl⟩ := List.mem_iff_getElem.1 h
  exact ⟨i, hi, by simp [List.getD, List.getElem?_eq_getElem hi]⟩
theorem fit_of {A : Apd} (h : A.nums) (k : A.lens) : A.fit := by
  obtain ⟨h1, h2, h3, h4, h5, h6, h7, h8, h9, h10, h11, h12, h13⟩ := h
  obtain ⟨k1, k2, k3, k4⟩ := k
  refine ⟨h1, h2, h3, h4, h5, h6, h7, h8, h9, h10, fun c hc => ?_, fun e he => ?_, k1, h13, k3⟩
  · obtain ⟨a1, a2, a3, a4, a5, a6⟩ := h11 c hc
    obtain ⟨b1, b2, b3⟩ := k4 c hc
    refine ⟨a1, a2, a3, a4, b3, a5, fun m hm => ⟨a6 m hm, ?_⟩, b1⟩
    obtain ⟨i, hi, rfl⟩ := getD_of_mem (d := mbr0) hm
    exact b2 i hi
  · obtain ⟨a1, a2, a3⟩ := h12 e he
    obtain ⟨i, hi, rfl⟩ := getD_of_mem (d := ent0) he
    exact ⟨a1, a2, (k2 i hi).1, a3, (k2 i hi).2⟩

/-! ### The input in later worlds -/
theorem PayAt.mono {B B' : Nat} {w : World} {a : Option Addr} {c : Nat} {ps : List Nat} (h : PayAt B w a c ps) (k : B ≤ B') : PayAt B' w a c ps := ⟨h.1, fun i hi => by obtain ⟨b, off, e, hb, hc⟩ := h.2 i hi; exact ⟨b, off, e, by omega, hc⟩⟩
theorem EntsAt.later {w w' : World} {a : Option Addr} {es : List Ent} (h : EntsAt w.heap.size w a es) (k : Below w.heap.size w w') : EntsAt w'.heap.size w' a es := fun i hi => by
  obtain ⟨b, off, ap, cp, e, hb, hp, hc⟩ := (h.agree (Agree.of_below k)) i hi
  exact ⟨b, off, ap, cp, e, Nat.lt_of_lt_of_le hb k.size, hp.mono k.size, hc⟩
theorem NumsAt.later {w w' : World} {a : Option Addr} {ps : List Nat} (h : NumsAt w a ps) (k : Below w.heap.size w w') : NumsAt w' a ps := fun i hi => by
  obtain ⟨b, off, rfl, h1, h2⟩ := h i hi
  exact ⟨b, off, rfl, Nat.lt_of_lt_of_le h1 k.size, by rw [k.cell (p := ⟨b, off + i, none⟩) h1]; exact h2⟩
theorem BytesAt.later {w w' : World} {a : Option Addr} {ps : List Nat} (h : BytesAt w a ps) (k : Below w.heap.size w w') : BytesAt w' a ps := fun i hi => by
  obtain ⟨b, off, rfl, h1, h2⟩ := h i hi
  exact ⟨b, off, rfl, Nat.lt_of_lt_of_le h1 k.size, by rw [k.cell (p := ⟨b, off + i, none⟩) h1]; exact h2⟩
theorem MbrsIn.later {w w' : World} {a : Option Addr} {ms : List Mbr} (h : MbrsIn w.heap.size w a ms) (k : Below w.heap.size w w') : MbrsIn w'.heap.size w' a ms := fun i hi => by
  obtain ⟨b, off, e, hb, hc⟩ := (h.agree (Agree.of_below k)) i hi
  exact ⟨b, off, e, Nat.lt_of_lt_of_le hb k.size, hc⟩
theorem ChgIn.later {w w' : World} {p : Option Addr} {oc : Option Chg} (h : ChgIn w p oc) (k : Below w.heap.size w w') : ChgIn w' p oc := by
  cases oc with
  | none => exact h
  | some c =>
    obtain ⟨g, o, am, cm, e, hg, hc, hm, ha⟩ := h
    exact ⟨g, o, am, cm, e, Nat.lt_of_lt_of_le hg k.size, fun j u hj => by rw [k.cell (p := ⟨g, o + j, none⟩) hg]; exact hc j u hj, hm.later k, ha⟩
theorem ApdAt.agree {base : Nat} {w w' : World} {P : Nat} {A : Apd} (h : ApdAt base w P A) (k : Agree base w w') : ApdAt base w' P A := by
  obtain ⟨ae, ce, an, cn, pc, hP, hc, hE, hN, hC⟩ := h
  refine ⟨ae, ce, an, cn, pc, hP, fun j u hj => by rw [k.cell hP]; exact hc j u hj, hE.agree k, hN.agree k, ?_⟩
  cases hA : A.change with
  | none => rw [hA] at hC; exact hC
  | some c =>
    rw [hA] at hC
    obtain ⟨g, am, cm, e, hg, hcc, hm⟩ := hC
    exact ⟨g, am, cm, e, hg, fun j u hj => by rw [k.cell hg]; exact hcc j u hj, hm.agree k⟩

/-- What came in, in world w. -/
structure Inp (A : Apd) (ie : Option Addr) (ce : Nat) (an : Option Addr) (cn : Nat) (ip : Option Addr) (ab : Option Addr) (cb : Nat) (bs : List Nat) (w : World) : Prop where
  en : EntsAt w.heap.size w ie A.entries
  ien : ie = none → A.entries = [] ∧ ce = 0
  ed : NumsAt w an A.ends
  ann : an = none → A.ends = [] ∧ cn = 0
  ch : ChgIn w ip A.change
  bb : BytesAt w ab bs
  abn : ab = none → bs = [] ∧ cb = 0
theorem Inp.later {A : Apd} {ie : Option Addr} {ce : Nat} {an : Option Addr} {cn : Nat} {ip : Option Addr} {ab : Option Addr} {cb : Nat} {bs : List Nat} {w w' : World} (h : Inp A ie ce an cn ip ab cb bs w) (k : Below w.heap.size w w') : Inp A ie ce an cn ip ab cb bs w' :=
  ⟨h.en.later k, h.ien, h.ed.later k, h.ann, h.ch.later k, h.bb.later k, h.abn⟩
theorem encApd_len (A : Apd) (h : A.fit) : (encApd A).length ≤ 4400000000000 := by
  obtain ⟨f0, f1, f2, f3, f4, f5, f6, f7, f8, f9, fc, fe, fel, fn, fnl⟩ := h
  have e1 := uv_length A.ticket
  have e2 := uv_length A.epoch
  have e3 := uv_length A.start
  have e4 := uv_length A.prev
  have e5 := uv_length A.prevEpoch
  have e6 := uv_length A.commit
  have e7 := uv_length A.held
  have e8 := uv_length A.changes
  have e9 := uv_length A.changed
  have e10 := uv_length A.read
  have e11 := uv_length A.entries.length
  have e12 := uv_length A.ends.length
  have e13 := encEnts_len A.entries fe
  have e14 := encEnds_len A.ends
  have e15 : (encOpt A.change).length ≤ 1099600000001 := by
    cases hc : A.change with
    | none => simp [encOpt]
    | some c => have := encChgIn_len c (fc c hc); simp [encOpt]; omega
  simp only [encApd, List.length_append]
  omega
theorem encApd_pos (A : Apd) : 0 < (encApd A).length := by
  have : 0 < (encOpt A.change).length := by cases A.change <;> simp [encOpt]
  simp only [encApd, List.length_append]
  omega

set_option maxRecDepth 100000 in
set_option maxHeartbeats 8000000 in
theorem law_any (A : Apd) (ie : Option Addr) (ce : Nat) (an : Option Addr) (cn : Nat) (ip : Option Addr) (ab : Option Addr) (cb : Nat) (bs : List Nat) (x : Int) (w : World) (hI : Inp A ie ce an cn ip ab cb bs w) (hw : A.wide) (hnu : A.nums) (hbm : bs.length ≤ maxLen) :
    Calls Try.prog 3 #[.agg (apdv A (.slice ie A.entries.length ce) (.slice an A.ends.length cn) (.pointer ip)).toArray, .slice ab bs.length cb, .int .u64 x] w fun e w' => e = .returned (.bool true) ∧ Below w.heap.size w w' := by
  have hb1 : Below w.heap.size w (w.alloc (.cells (apdv A (.slice ie A.entries.length ce) (.slice an A.ends.length cn) (.pointer ip)).toArray 27)) := (Below.refl _ _).alloc (Nat.le_refl _) _
  have hM : ∀ j u, (apdv A (.slice ie A.entries.length ce) (.slice an A.ends.length cn) (.pointer ip))[j]? = some u → (w.alloc (.cells (apdv A (.slice ie A.entries.length ce) (.slice an A.ends.length cn) (.pointer ip)).toArray 27)).cell? ⟨w.heap.size, j, none⟩ = some u := fun j u hj => by
    rw [cell_of_row _ _ _ _ _ _ (heap_alloc_new w _)]; simpa using hj
  have hs1 : w.heap.size < (w.alloc (.cells (apdv A (.slice ie A.entries.length ce) (.slice an A.ends.length cn) (.pointer ip)).toArray 27)).heap.size := by simp
  have I1 := hI.later hb1
  have K5 := bytes5_any A ie ce an cn ip ab cb bs x _ hw hbm I1.en I1.ch
  unfold maxLen at hbm
  generalize hw1 : w.alloc (.cells (apdv A (.slice ie A.entries.length ce) (.slice an A.ends.length cn) (.pointer ip)).toArray 27) = w1 at *
  have Hw1 : Hid (w.alloc (.cells (apdv A (.slice ie A.entries.length ce) (.slice an A.ends.length cn) (.pointer ip)).toArray 27) = w1) := hw1
  clear hw1
  unfold apdv at K5 Hw1
  unfold apdv
  have later : ∀ {wx : World}, Below w1.heap.size w1 wx → ∀ j u, (apdv A (.slice ie A.entries.length ce) (.slice an A.ends.length cn) (.pointer ip))[j]? = some u → wx.cell? ⟨w.heap.size, j, none⟩ = some u := fun h j u hj => (h.cell (p := ⟨w.heap.size, j, none⟩) hs1).trans (hM j u hj)
  go_enter Try.func3, Try.ntmps3
  go_wp2_with fail
  rw [Hw1.out]
  refine K5.mono ?_
  rintro e w2 ⟨b, rfl, hb2, hlen⟩
  cases b
  · go_wp2
    go_ret
    exact ⟨rfl, hb1.trans (hb2.mono (by omega))⟩
  obtain ⟨hlens, hbsl⟩ := hlen rfl
  have hfit := fit_of hnu hlens
  clear hlen K5 hw hnu hlens
  go_wp2_with fail
  refine (add_any _ _ _ (by omega) (by omega) (by omega) (by omega)).mono ?_
  rintro e w' ⟨n, b, rfl, rfl, hn⟩
  cases b
  · go_wp2
    go_ret
    exact ⟨rfl, hb1.trans (hb2.mono (by omega))⟩
  obtain ⟨n0, n1⟩ := hn rfl
  clear hn
  have I2 := I1.later hb2
  have m0 := later hb2 0 _ rfl
  have m1 := later hb2 1 _ rfl
  have m2 := later hb2 2 _ rfl
  have m3 := later hb2 3 _ rfl
  have m4 := later hb2 4 _ rfl
  have m5 := later hb2 5 _ rfl
  have m6 := later hb2 6 _ rfl
  have m7 := later hb2 7 _ rfl
  have m8 := later hb2 8 _ rfl
  have m9 := later hb2 9 _ rfl
  have m10 := later hb2 10 _ rfl
  have m11 := later hb2 11 _ rfl
  have m12 := later hb2 12 _ rfl
  have K7 := appendSize_any A ie ce an cn ip n _ hfit n0 n1 I2.en I2.ch
  unfold apdv at K7
  go_wp2_with fail
  refine K7.mono ?_
  rintro e w3 ⟨n3, b, rfl, hb3⟩
  have hb3' := hb2.trans (hb3.mono hb2.size)
  cases b
  · go_wp2
    go_ret
    exact ⟨rfl, hb1.trans (hb3'.mono (by omega))⟩
  clear m0 m1 m2 m3 m4 m5 m6 m7 m8 m9 m10 m11 m12 K7
  have I3 := I2.later hb3
  have m0 := later hb3' 0 _ rfl
  have m1 := later hb3' 1 _ rfl
  have m2 := later hb3' 2 _ rfl
  have m3 := later hb3' 3 _ rfl
  have m4 := later hb3' 4 _ rfl
  have m5 := later hb3' 5 _ rfl
  have m6 := later hb3' 6 _ rfl
  have m7 := later hb3' 7 _ rfl
  have m8 := later hb3' 8 _ rfl
  have m9 := later hb3' 9 _ rfl
  have m10 := later hb3' 10 _ rfl
  have m11 := later hb3' 11 _ rfl
  have m12 := later hb3' 12 _ rfl
  have K9 := to_append A ie ce an cn ip _ hfit I3.ien I3.en I3.ann I3.ed I3.ch
  unfold apdv at K9
  go_wp2_with fail
  refine K9.mono ?_
  rintro e w4 ⟨P, rfl, hP, hb4⟩
  have hb4' := hb3'.trans (hb4.mono hb3'.size)
  clear m0 m1 m2 m3 m4 m5 m6 m7 m8 m9 m10 m11 m12 K9
  have I4 := I3.later hb4
  go_wp2_with fail
  refine (clone_bytes ab bs cb w4 I4.abn I4.bb hbsl).mono ?_
  rintro e w5 ⟨a5, c5, rfl, ha5, ho5, hb5⟩
  rw [bv_length] at ho5
  have hb5' := hb4'.trans (hb5.mono hb4'.size)
  go_wp2_with fail
  rw [bv_length]
  refine (fields8 w4.heap.size _ bs P A x w5 ho5 hb5.size (hP.agree (Agree.of_below hb5)) hfit hbsl).mono ?_
  rintro e w6 ⟨v6, rfl, ho6, hg6, _⟩
  have hb6 : Below w4.heap.size w4 w6 := hb5.grown hg6 hb5.size (fun k hk => (ho5.lt k hk).1)
  have hb6' := hb4'.trans (hb6.mono hb4'.size)
  have I6 := I4.later hb6
  have hpos : 0 < (bs ++ encApd A).length := by have := encApd_pos A; rw [List.length_append]; omega
  have hlen6 : (bs ++ encApd A).length ≤ 4611686018427387904 := by have := encApd_len A hfit; rw [List.length_append]; omega
  have hv6 : ∃ q cap, v6 = .slice (some ⟨q, 0, none⟩) (bs ++ encApd A).length cap := by
    rcases ho6.2 with ⟨_, h0⟩ | ⟨g, cap, cur, hv, _⟩
    · omega
    · exact ⟨g, cap, hv⟩
  obtain ⟨q, cap, rfl⟩ := hv6
  have hq : q < w6.heap.size := (ho6.lt q rfl).2
  have hout : ∀ j, j < (bs ++ encApd A).length → w6.cell? ⟨q, j, none⟩ = some (.int .u8 (((bs ++ encApd A).getD j 0 : Nat) : Int)) := fun j hj => by
    obtain ⟨b, hb, _, _, hc⟩ := row_cell ho6 rfl j hj
    cases hb
    rw [hc]
    generalize bs ++ encApd A = os at hj
    simp [bv, List.getD, List.getElem?_eq_getElem hj]
  have K11 := encodes_any A ie ce an cn ip q cap ab cb bs (bs ++ encApd A) w6 hfit I6.en I6.ed I6.ch rfl hlen6 hq hout I6.bb
  have m0 := later hb6' 0 _ rfl
  have m1 := later hb6' 1 _ rfl
  have m2 := later hb6' 2 _ rfl
  have m3 := later hb6' 3 _ rfl
  have m4 := later hb6' 4 _ rfl
  have m5 := later hb6' 5 _ rfl
  have m6 := later hb6' 6 _ rfl
  have m7 := later hb6' 7 _ rfl
  have m8 := later hb6' 8 _ rfl
  have m9 := later hb6' 9 _ rfl
  have m10 := later hb6' 10 _ rfl
  have m11 := later hb6' 11 _ rfl
  have m12 := later hb6' 12 _ rfl
  unfold apdv at K11
  generalize bs ++ encApd A = os at *
  go_wp2_with fail
  refine K11.mono ?_
  rintro e w7 ⟨rfl, hb7⟩
  go_wp2
  go_ret
  exact ⟨rfl, hb1.trans ((hb6'.trans (hb7.mono hb6'.size)).mono (by omega))⟩
end Go.Proofs.Qxb6616158a
