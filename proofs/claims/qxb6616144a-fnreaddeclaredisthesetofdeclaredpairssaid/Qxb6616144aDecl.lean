import Derived.Test.Qxb6616144aMeter
namespace Go.Proofs.Qxb6616144a
open Go.RowKit

/-! ### What came in: events, rules, scopes, units, in memory below block B -/
structure Ev where
  entity : ByteArray
  event : ByteArray
structure Rl where
  entity : ByteArray
  event : ByteArray
  requires : ByteArray
  approvals : Int
structure Sc where
  key : ByteArray
  id : ByteArray
  parent : ByteArray
  units : List ByteArray
  rules : List Rl
structure Un where
  key : ByteArray
  id : ByteArray
  rules : List Rl
def e0 : ByteArray := ⟨#[]⟩
def ev0 : Ev := ⟨e0, e0⟩
def rl0 : Rl := ⟨e0, e0, e0, 0⟩
def sc0 : Sc := ⟨e0, e0, e0, [], []⟩
def un0 : Un := ⟨e0, e0, []⟩
def evv (e : Ev) : List Value := [.string e.entity, .string e.event]
def rlv (r : Rl) : List Value := [.string r.entity, .string r.event, .string r.requires, .int .i64 r.approvals]
def scv (s : Sc) (us rs : Value) : List Value := [.string s.key, .string s.id, .string s.parent, us, rs]
def unv (u : Un) (rs : Value) : List Value := [.string u.key, .string u.id, rs]

/-- A row of k cells an element, below block B. -/
def EvsAt (B : Nat) (w : World) (a : Option Addr) (es : List Ev) : Prop :=
  ∀ i, i < es.length → ∃ b off, a = some ⟨b, off, none⟩ ∧ b < B ∧ ((es.getD i ev0).entity.size ≤ maxLen ∧ (es.getD i ev0).event.size ≤ maxLen) ∧ ∀ j u, (evv (es.getD i ev0))[j]? = some u → w.cell? ⟨b, off + i * 2 + j, none⟩ = some u
def RlsAt (B : Nat) (w : World) (a : Option Addr) (rs : List Rl) : Prop :=
  ∀ i, i < rs.length → ∃ b off, a = some ⟨b, off, none⟩ ∧ b < B ∧ ((rs.getD i rl0).entity.size ≤ maxLen ∧ (rs.getD i rl0).event.size ≤ maxLen ∧ (rs.getD i rl0).requires.size ≤ maxLen) ∧ ∀ j u, (rlv (rs.getD i rl0))[j]? = some u → w.cell? ⟨b, off + i * 4 + j, none⟩ = some u
/-- Strings, below block B. -/
def StsAt (B : Nat) (w : World) (a : Option Addr) (ss : List ByteArray) : Prop :=
  ∀ i, i < ss.length → ∃ b off, a = some ⟨b, off, none⟩ ∧ b < B ∧ w.cell? ⟨b, off + i, none⟩ = some (.string (ss.getD i ByteArray.empty)) ∧ (ss.getD i ByteArray.empty).size ≤ maxLen
def ScsAt (B : Nat) (w : World) (a : Option Addr) (ss : List Sc) : Prop :=
  ∀ i, i < ss.length → ∃ b off au cu ar cr, a = some ⟨b, off, none⟩ ∧ b < B ∧ ((ss.getD i sc0).key.size ≤ maxLen ∧ (ss.getD i sc0).id.size ≤ maxLen ∧ (ss.getD i sc0).parent.size ≤ maxLen ∧ (ss.getD i sc0).units.length ≤ maxLen ∧ (ss.getD i sc0).rules.length ≤ maxLen) ∧
    StsAt B w au (ss.getD i sc0).units ∧ RlsAt B w ar (ss.getD i sc0).rules ∧ (au = none → (ss.getD i sc0).units = [] ∧ cu = 0) ∧ (ar = none → (ss.getD i sc0).rules = [] ∧ cr = 0) ∧
    ∀ j u, (scv (ss.getD i sc0) (.slice au (ss.getD i sc0).units.length cu) (.slice ar (ss.getD i sc0).rules.length cr))[j]? = some u → w.cell? ⟨b, off + i * 5 + j, none⟩ = some u
def UnsAt (B : Nat) (w : World) (a : Option Addr) (us : List Un) : Prop :=
  ∀ i, i < us.length → ∃ b off ar cr, a = some ⟨b, off, none⟩ ∧ b < B ∧ ((us.getD i un0).key.size ≤ maxLen ∧ (us.getD i un0).id.size ≤ maxLen ∧ (us.getD i un0).rules.length ≤ maxLen) ∧
    RlsAt B w ar (us.getD i un0).rules ∧ (ar = none → (us.getD i un0).rules = [] ∧ cr = 0) ∧
    ∀ j u, (unv (us.getD i un0) (.slice ar (us.getD i un0).rules.length cr))[j]? = some u → w.cell? ⟨b, off + i * 3 + j, none⟩ = some u

theorem EvsAt.keep {B : Nat} {w w' : World} {a : Option Addr} {es : List Ev} (h : EvsAt B w a es) (k : Below B w w') : EvsAt B w' a es := fun i hi => by
  obtain ⟨b, off, e, hb, hz, hc⟩ := h i hi
  exact ⟨b, off, e, hb, hz, fun j u hj => by rw [k.cell (p := ⟨b, off + i * 2 + j, none⟩) hb]; exact hc j u hj⟩
theorem RlsAt.keep {B : Nat} {w w' : World} {a : Option Addr} {rs : List Rl} (h : RlsAt B w a rs) (k : Below B w w') : RlsAt B w' a rs := fun i hi => by
  obtain ⟨b, off, e, hb, hz, hc⟩ := h i hi
  exact ⟨b, off, e, hb, hz, fun j u hj => by rw [k.cell (p := ⟨b, off + i * 4 + j, none⟩) hb]; exact hc j u hj⟩
theorem StsAt.keep {B : Nat} {w w' : World} {a : Option Addr} {ss : List ByteArray} (h : StsAt B w a ss) (k : Below B w w') : StsAt B w' a ss := fun i hi => by
  obtain ⟨b, off, e, hb, hc, hz⟩ := h i hi
  exact ⟨b, off, e, hb, by rw [k.cell (p := ⟨b, off + i, none⟩) hb]; exact hc, hz⟩
theorem ScsAt.keep {B : Nat} {w w' : World} {a : Option Addr} {ss : List Sc} (h : ScsAt B w a ss) (k : Below B w w') : ScsAt B w' a ss := fun i hi => by
  obtain ⟨b, off, au, cu, ar, cr, e, hb, hz, hu, hr, h1, h2, hc⟩ := h i hi
  exact ⟨b, off, au, cu, ar, cr, e, hb, hz, hu.keep k, hr.keep k, h1, h2, fun j u hj => by rw [k.cell (p := ⟨b, off + i * 5 + j, none⟩) hb]; exact hc j u hj⟩
theorem UnsAt.keep {B : Nat} {w w' : World} {a : Option Addr} {us : List Un} (h : UnsAt B w a us) (k : Below B w w') : UnsAt B w' a us := fun i hi => by
  obtain ⟨b, off, ar, cr, e, hb, hz, hr, h2, hc⟩ := h i hi
  exact ⟨b, off, ar, cr, e, hb, hz, hr.keep k, h2, fun j u hj => by rw [k.cell (p := ⟨b, off + i * 3 + j, none⟩) hb]; exact hc j u hj⟩
theorem StsAt.strs {B : Nat} {w : World} {a : Option Addr} {ss : List ByteArray} (h : StsAt B w a ss) (k : B ≤ w.heap.size) : StrsAt w a ss := fun i hi => by
  obtain ⟨b, off, e, hb, hc, hz⟩ := h i hi
  exact ⟨b, off, e, Nat.lt_of_lt_of_le hb k, hc, hz⟩
theorem StsAt.lo {B : Nat} {w : World} {a : Option Addr} {ss : List ByteArray} (h : StsAt B w a ss) (b off : Nat) (e : a = some ⟨b, off, none⟩) (hp : 0 < ss.length) : b < B := by
  obtain ⟨b', off', e', hb, _⟩ := h 0 hp
  rw [e] at e'; cases e'; exact hb

/-! ### The meter over rules -/
set_option maxRecDepth 100000 in
set_option maxHeartbeats 2000000 in
theorem addRules_any (g : Nat) (a : Option Addr) (rs : List Rl) (cap : Nat) (w : World) (h : Mtr g w) (hs : RlsAt g w a rs) (hl : rs.length ≤ maxLen) :
    Calls Try.prog 20 #[.pointer (some ⟨g, 0, none⟩), .slice a rs.length cap] w fun e w' => e = .returned (.tuple #[]) ∧ Stp g w w' := by
  unfold maxLen at hl
  go_enter Try.func20, Try.ntmps20
  go_wp2_with (go_at_call 19; refine (addWords_any g _ _ _ h (by omega) (by omega) (by omega) (by omega)).mono ?_; rintro e w1 ⟨rfl, hst⟩)
  go_loopw [4] (fun i wr => ∃ k : Nat, k ≤ rs.length ∧ i = .int .i64 k ∧ Stp g w wr) (fun i _ => rs.length - (intOf i).toNat)
  case atStart => exact ⟨0, Nat.zero_le _, rfl, hst⟩
  case round =>
    obtain ⟨k, hk, rfl, hstr⟩ := hrel
    have hm := hstr.1
    obtain ⟨u, o, hh, h0, h1⟩ := hstr.1
    have c1 := two_cell1 hh
    clear hh h0 h1
    by_cases hlt : k < rs.length
    · cases o
      · obtain ⟨b, off, rfl, hb, ⟨z0, z1, z2⟩, hc⟩ := (hs.keep hstr.2.1) k hlt
        generalize rs.getD k rl0 = R at *
        obtain ⟨en, evn, rq, ap⟩ := R
        simp only at z0 z1 z2
        unfold maxLen at z0 z1 z2
        have q0 := hc 0 _ rfl
        have q1 := hc 1 _ rfl
        have q2 := hc 2 _ rfl
        simp only [Nat.add_zero] at q0
        clear hc
        go_wp2_with fail
        refine (add_any g _ _ hm (by omega) (by omega)).mono ?_
        rintro e w2 ⟨rfl, hst2⟩
        have q1' := (hst2.2.1.cell (p := ⟨b, off + k * 4 + 1, none⟩) hb).trans q1
        have q2' := (hst2.2.1.cell (p := ⟨b, off + k * 4 + 2, none⟩) hb).trans q2
        clear q0 q1 q2 c1
        go_wp2_with fail
        refine (add_any g _ _ hst2.1 (by omega) (by omega)).mono ?_
        rintro e w3 ⟨rfl, hst3⟩
        have q2 := (hst3.2.1.cell (p := ⟨b, off + k * 4 + 2, none⟩) hb).trans q2'
        clear q1' q2'
        go_wp2_with fail
        refine (add_any g _ _ hst3.1 (by omega) (by omega)).mono ?_
        rintro e w4 ⟨rfl, hst4⟩
        go_wp2
        go_roundw
        case rel => exact ⟨k + 1, by omega, by go_num, ((hstr.trans hst2).trans hst3).trans hst4⟩
        case measure => simp [intOf]; omega
      · go_wp2
        go_end0
        exact ⟨rfl, hstr⟩
    · go_wp2
      go_end0
      exact ⟨rfl, hstr⟩
end Go.Proofs.Qxb6616144a
