import Derived.Test.Qxb6616144aMeter
import Derived.Laws.Rows
namespace Go.Proofs.Qxb6616144a
open Go.RowKit

/-- An Approval that bears By alone, cell by cell. -/
def apv (s : ByteArray) : List Value := [.int .i64 0, .string s, .int .u64 0, .int .i64 0, .pointer none, .string ⟨#[]⟩, .string ⟨#[]⟩, .string ⟨#[]⟩, .string ⟨#[]⟩, .string ⟨#[]⟩]

/-- Is one of them the id? As the model compares strings. -/
def inBy (ss : List ByteArray) (id : ByteArray) : Bool := ss.any fun s => s.toList == id.toList

/-- The closure 'func(a Approval) bool { return a.By == id }'. -/
theorem closure_any (s id : ByteArray) (b : Nat) (cs : Array Value) (w : World) (hcs : cs[1]? = some (.string s)) (hc : w.cell? ⟨b, 0, none⟩ = some (.string id)) (hb : b < w.heap.size) :
    Calls Try.prog 26 #[.agg cs, .pointer (some ⟨b, 0, none⟩)] w fun e w' => e = .returned (.bool (s.toList == id.toList)) ∧ w' = w.alloc (.cells cs 33) := by
  go_enter Try.func26, Try.ntmps26
  go_wp2
  go_ret
  exact ⟨rfl, rfl⟩

/-- A slice of Approvals as the walks see it. -/
def ApsAt (w : World) (a : Option Addr) (ss : List ByteArray) : Prop :=
  ∀ i, i < ss.length → ∃ g off, a = some ⟨g, off, none⟩ ∧ g < w.heap.size ∧ ∀ j u, (apv (ss.getD i ByteArray.empty))[j]? = some u → w.cell? ⟨g, off + i * 10 + j, none⟩ = some u

theorem ApsAt.below {B : Nat} {w w' : World} {a : Option Addr} {ss : List ByteArray} (h : ApsAt w a ss) (hb : Below B w w') (hB : w.heap.size ≤ B) : ApsAt w' a ss := by
  intro i hi
  obtain ⟨g, off, rfl, h1, h2⟩ := h i hi
  exact ⟨g, off, rfl, Nat.lt_of_lt_of_le h1 hb.size, fun j u hj => by rw [hb.cell (p := ⟨g, off + i * 10 + j, none⟩) (Nat.lt_of_lt_of_le h1 hB)]; exact h2 j u hj⟩

theorem inBy_snoc (ss : List ByteArray) (id : ByteArray) (k : Nat) (h : k < ss.length) : inBy (ss.take (k + 1)) id = (inBy (ss.take k) id || ((ss.getD k ByteArray.empty).toList == id.toList)) := by
  unfold inBy
  rw [List.take_succ_eq_append_getElem h, List.any_append]
  simp [List.getD, List.getElem?_eq_getElem h]
theorem inBy_take_true {ss : List ByteArray} {id : ByteArray} {k : Nat} (h : inBy (ss.take k) id = true) : inBy ss id = true := by
  unfold inBy at h ⊢
  rw [List.any_eq_true] at h ⊢
  obtain ⟨x, hx, hp⟩ := h
  exact ⟨x, List.mem_of_mem_take hx, hp⟩

/-- 'An index, or none; nothing that was there turns'. -/
def IPost (ss : List ByteArray) (id : ByteArray) (w : World) (e : Ending) (w' : World) : Prop := ∃ n : Int, e = .returned (.int .i64 n) ∧ decide (0 ≤ n) = inBy ss id ∧ Below w.heap.size w w'

set_option maxHeartbeats 1000000 in
theorem index_any (a : Option Addr) (ss : List ByteArray) (cap : Nat) (id : ByteArray) (b : Nat) (w : World) (hs : ApsAt w a ss) (hl : ss.length ≤ 2097152)
    (hc : w.cell? ⟨b, 0, none⟩ = some (.string id)) (hb : b < w.heap.size) :
    Calls Try.prog 28 #[.slice a ss.length cap, .func (.func 26) #[] #[.pointer (some ⟨b, 0, none⟩)]] w (IPost ss id w) := by
  go_enter Try.func28, Try.ntmps28
  go_wp2
  go_loopw [8, 5] (fun i _ wr => ∃ k : Nat, k ≤ ss.length ∧ i = .int .i64 k ∧ Hid (inBy (ss.take k) id = false) ∧ Below w.heap.size w wr) (fun i _ _ => ss.length - (intOf i).toNat)
  case atStart => exact ⟨0, Nat.zero_le _, rfl, rfl, Below.refl _ _⟩
  case round =>
    obtain ⟨k, hk, rfl, hno, hbr⟩ := hrel
    by_cases hlt : k < ss.length
    · obtain ⟨g, off, rfl, hg, hcs⟩ := (hs.below hbr (Nat.le_refl _)) k hlt
      have hcr : wr.cell? ⟨b, 0, none⟩ = some (.string id) := (hbr.cell (p := ⟨b, 0, none⟩) hb).trans hc
      have hbr' : b < wr.heap.size := Nat.lt_of_lt_of_le hb hbr.size
      have HS : Hid (inBy (ss.take (k + 1)) id = (inBy (ss.take k) id || ((ss.getD k ByteArray.empty).toList == id.toList))) := inBy_snoc ss id k hlt
      generalize ss.getD k ByteArray.empty = s at *
      have d0 := hcs 0 _ rfl
      have d1 := hcs 1 _ rfl
      have d2 := hcs 2 _ rfl
      have d3 := hcs 3 _ rfl
      have d4 := hcs 4 _ rfl
      have d5 := hcs 5 _ rfl
      have d6 := hcs 6 _ rfl
      have d7 := hcs 7 _ rfl
      have d8 := hcs 8 _ rfl
      have d9 := hcs 9 _ rfl
      simp only [Nat.add_zero] at d0
      have hb1 : Below w.heap.size w (wr.alloc (.cells (apv s).toArray 33)) := hbr.alloc hbr.size _
      simp only [apv] at hb1
      clear hcs hc
      cases hq : s.toList == id.toList
      · have HQ : Hid ((s.toList == id.toList) = false) := hq
        go_wp2_with (go_at_call 26; refine (closure_any s id b _ _ rfl hcr hbr').mono ?_; rintro e w2 ⟨rfl, rfl⟩)
        go_roundw
        case rel => exact ⟨k + 1, by omega, by go_num, by have h1 := HS.out; rw [hno.out, HQ.out] at h1; exact h1, hb1⟩
        case measure => simp [intOf]; omega
      · have HQ : Hid ((s.toList == id.toList) = true) := hq
        go_wp2_with (go_at_call 26; refine (closure_any s id b _ _ rfl hcr hbr').mono ?_; rintro e w2 ⟨rfl, rfl⟩)
        go_ret
        refine ⟨_, rfl, ?_, hb1⟩
        have h1 := HS.out
        rw [HQ.out, Bool.or_true] at h1
        rw [inBy_take_true h1]
        simp
    · go_wp2
      go_ret
      refine ⟨_, rfl, ?_, hbr⟩
      rw [← List.take_of_length_le (l := ss) (i := k) (by omega), hno.out]
      rfl

theorem contains_any (a : Option Addr) (ss : List ByteArray) (cap : Nat) (id : ByteArray) (b : Nat) (w : World) (hs : ApsAt w a ss) (hl : ss.length ≤ 2097152)
    (hc : w.cell? ⟨b, 0, none⟩ = some (.string id)) (hb : b < w.heap.size) :
    Calls Try.prog 25 #[.slice a ss.length cap, .func (.func 26) #[] #[.pointer (some ⟨b, 0, none⟩)]] w fun e w' => e = .returned (.bool (inBy ss id)) ∧ Below w.heap.size w w' := by
  go_enter Try.func25, Try.ntmps25
  go_wp2_with (go_at_call 28; refine (index_any a ss cap id b _ hs hl hc hb).mono ?_; rintro e w2 ⟨n, rfl, hn, hbl⟩)
  go_ret
  exact ⟨by rw [← hn]; rfl, hbl⟩

/-- The Submission's row, its Approvals in place. -/
def subm (v : Value) : Array Value := #[.string ⟨#[]⟩, .string ⟨#[]⟩, .string ⟨#[]⟩, .string ⟨#[]⟩, .string ⟨#[]⟩, .pointer none, .int .i32 0, .string ⟨#[]⟩, .string ⟨#[]⟩, .string ⟨#[]⟩, .string ⟨#[]⟩, .string ⟨#[]⟩, .bool false,
  .string ⟨#[]⟩, .string ⟨#[]⟩, .string ⟨#[]⟩, .string ⟨#[]⟩, .int .i64 0, .string ⟨#[]⟩, v, .pointer none, .int .u64 0, .int .i64 0, .pointer none, .int .i64 0, .int .u64 0, .int .i64 0, .pointer none, .int .i64 0, .int .i64 0, .bool false, .bool false]

theorem approved23 (a : Option Addr) (ss : List ByteArray) (cap : Nat) (id : ByteArray) (g : Nat) (w : World) (hs : ApsAt w a ss) (hl : ss.length ≤ 2097152)
    (hg : w.cell? ⟨g, 19, none⟩ = some (.slice a ss.length cap)) (hgl : g < w.heap.size) :
    Calls Try.prog 23 #[.pointer (some ⟨g, 0, none⟩), .string id] w fun e w' => e = .returned (.bool (inBy ss id)) ∧ Below w.heap.size w w' := by
  have hb0 : Below w.heap.size w (w.alloc (.cells #[.string id] 9)) := (Below.refl _ _).alloc (Nat.le_refl _) _
  have hs1 := hs.below hb0 (Nat.le_refl _)
  have hc1 : (w.alloc (.cells #[.string id] 9)).cell? ⟨w.heap.size, 0, none⟩ = some (.string id) := by simp
  have hz : w.heap.size < (w.alloc (.cells #[.string id] 9)).heap.size := by simp
  go_enter Try.func23, Try.ntmps23
  go_wp2_with (go_at_call 25; refine (contains_any a ss cap id w.heap.size _ hs1 hl hc1 hz).mono ?_; rintro e w2 ⟨rfl, hbl⟩)
  go_ret
  exact ⟨rfl, hb0.trans (hbl.mono (by simp))⟩

theorem approved18 (a : Option Addr) (ss : List ByteArray) (cap : Nat) (id : ByteArray) (g : Nat) (w : World) (hs : ApsAt w a ss) (hl : ss.length ≤ 2097152)
    (hg : w.cell? ⟨g, 19, none⟩ = some (.slice a ss.length cap)) (hgl : g < w.heap.size) :
    Calls Try.prog 18 #[.pointer (some ⟨g, 0, none⟩), .string id] w fun e w' => e = .returned (.bool (inBy ss id)) ∧ Below w.heap.size w w' := by
  go_enter Try.func18, Try.ntmps18
  go_wp2_with (go_at_call 23; refine (approved23 a ss cap id g _ hs hl hg hgl).mono ?_; rintro e w2 ⟨rfl, hbl⟩)
  go_ret
  exact ⟨rfl, hbl⟩

/-- approvedBy(as, id). -/
theorem approved8 (a : Option Addr) (ss : List ByteArray) (cap : Nat) (id : ByteArray) (w : World) (hs : ApsAt w a ss) (hl : ss.length ≤ 2097152) :
    Calls Try.prog 8 #[.slice a ss.length cap, .string id] w fun e w' => e = .returned (.bool (inBy ss id)) ∧ Below w.heap.size w w' := by
  have hb0 : Below w.heap.size w (w.alloc (.cells (subm (.slice a ss.length cap)) 70)) := (Below.refl _ _).alloc (Nat.le_refl _) _
  have hs1 := hs.below hb0 (Nat.le_refl _)
  have hc1 : (w.alloc (.cells (subm (.slice a ss.length cap)) 70)).cell? ⟨w.heap.size, 19, none⟩ = some (.slice a ss.length cap) := by simp [subm]
  have hz : w.heap.size < (w.alloc (.cells (subm (.slice a ss.length cap)) 70)).heap.size := by simp
  unfold subm at hb0 hs1 hc1 hz
  go_enter Try.func8, Try.ntmps8
  go_wp2_with (go_at_call 18; refine (approved18 a ss cap id w.heap.size _ hs1 hl hc1 hz).mono ?_; rintro e w2 ⟨rfl, hbl⟩)
  go_ret
  exact ⟨rfl, hb0.trans (hbl.mono (by simp))⟩
end Go.Proofs.Qxb6616144a
