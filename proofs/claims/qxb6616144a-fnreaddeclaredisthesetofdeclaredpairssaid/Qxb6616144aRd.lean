import Derived.Test.Qxb6616144aPol
import Derived.Test.Qxb6616144aDp
import Derived.Test.Qxb6616144aDecl2
import Derived.Test.Qxb6616144aB11
namespace Go.Proofs.Qxb6616144a
open Go.RowKit Go.Maps

theorem EvsAt.wide {B B' : Nat} {w : World} {a : Option Addr} {es : List Ev} (h : EvsAt B w a es) (k : B ≤ B') : EvsAt B' w a es := fun i hi => by
  obtain ⟨b, off, e, hb, r⟩ := h i hi
  exact ⟨b, off, e, by omega, r⟩
theorem RlsAt.wide {B B' : Nat} {w : World} {a : Option Addr} {rs : List Rl} (h : RlsAt B w a rs) (k : B ≤ B') : RlsAt B' w a rs := fun i hi => by
  obtain ⟨b, off, e, hb, r⟩ := h i hi
  exact ⟨b, off, e, by omega, r⟩
theorem StsAt.wide {B B' : Nat} {w : World} {a : Option Addr} {ss : List ByteArray} (h : StsAt B w a ss) (k : B ≤ B') : StsAt B' w a ss := fun i hi => by
  obtain ⟨b, off, e, hb, r⟩ := h i hi
  exact ⟨b, off, e, by omega, r⟩
theorem ScsAt.wide {B B' : Nat} {w : World} {a : Option Addr} {ss : List Sc} (h : ScsAt B w a ss) (k : B ≤ B') : ScsAt B' w a ss := fun i hi => by
  obtain ⟨b, off, au, cu, ar, cr, e, hb, hz, hu, hr, r⟩ := h i hi
  exact ⟨b, off, au, cu, ar, cr, e, by omega, hz, hu.wide k, hr.wide k, r⟩
theorem UnsAt.wide {B B' : Nat} {w : World} {a : Option Addr} {us : List Un} (h : UnsAt B w a us) (k : B ≤ B') : UnsAt B' w a us := fun i hi => by
  obtain ⟨b, off, ar, cr, e, hb, hz, hr, r⟩ := h i hi
  exact ⟨b, off, ar, cr, e, by omega, hz, hr.wide k, r⟩

/-! ### What the bound says -/
theorem ssum_mono (ss : List Sc) {a b : Nat} (h : a ≤ b) : ssum ss a ≤ ssum ss b := by
  induction b with
  | zero => obtain rfl : a = 0 := by omega
            exact Nat.le_refl _
  | succ b ih =>
    by_cases e : a = b + 1
    · subst e; exact Nat.le_refl _
    · exact Nat.le_trans (ih (by omega)) (by rw [show ssum ss (b + 1) = ssum ss b + (ss.getD b sc0).units.length + (ss.getD b sc0).rules.length from rfl]; omega)
theorem usum_mono (us : List Un) {a b : Nat} (h : a ≤ b) : usum us a ≤ usum us b := by
  induction b with
  | zero => obtain rfl : a = 0 := by omega
            exact Nat.le_refl _
  | succ b ih =>
    by_cases e : a = b + 1
    · subst e; exact Nat.le_refl _
    · exact Nat.le_trans (ih (by omega)) (by rw [show usum us (b + 1) = usum us b + (us.getD b un0).rules.length from rfl]; omega)
theorem ssum_at (ss : List Sc) (i : Nat) (h : i < ss.length) : (ss.getD i sc0).units.length + (ss.getD i sc0).rules.length ≤ ssum ss ss.length := by
  have := ssum_mono ss (show i + 1 ≤ ss.length by omega)
  rw [ssum] at this
  omega
theorem usum_at (us : List Un) (i : Nat) (h : i < us.length) : (us.getD i un0).rules.length ≤ usum us us.length := by
  have := usum_mono us (show i + 1 ≤ us.length by omega)
  rw [usum] at this
  omega
theorem rsum_ssum (ss : List Sc) : ∀ n, rsum (fun i => (ss.getD i sc0).rules) n ≤ ssum ss n
  | 0 => Nat.le_refl _
  | n + 1 => by
    have := rsum_ssum ss n
    rw [rsum, ssum]
    omega
theorem rsum_usum (us : List Un) : ∀ n, rsum (fun i => (us.getD i un0).rules) n ≤ usum us n
  | 0 => Nat.le_refl _
  | n + 1 => by
    have := rsum_usum us n
    rw [rsum, usum]
    omega

/-! ### Each pair's strings are within the bound -/
def PSz (p : ByteArray × ByteArray) : Prop := p.1.size ≤ maxLen ∧ p.2.size ≤ maxLen
theorem getD_of_mem {α : Type} {l : List α} {x : α} (d : α) (h : x ∈ l) : ∃ i, i < l.length ∧ l.getD i d = x := by
  obtain ⟨i, hi, e⟩ := List.getElem_of_mem h
  exact ⟨i, hi, by simp [List.getD, List.getElem?_eq_getElem hi, e]⟩
theorem evs_sz {B : Nat} {w : World} {a : Option Addr} {es : List Ev} (h : EvsAt B w a es) {p : ByteArray × ByteArray} (hp : p ∈ evPairs es) : PSz p := by
  obtain ⟨e, he, rfl⟩ := List.mem_map.1 hp
  obtain ⟨i, hi, rfl⟩ := getD_of_mem ev0 he
  obtain ⟨_, _, _, _, hz, _⟩ := h i hi
  exact hz
theorem rls_sz {B : Nat} {w : World} {a : Option Addr} {rs : List Rl} (h : RlsAt B w a rs) {p : ByteArray × ByteArray} (hp : p ∈ pairs rs) : PSz p := by
  obtain ⟨e, he, rfl⟩ := List.mem_map.1 hp
  obtain ⟨i, hi, rfl⟩ := getD_of_mem rl0 he
  obtain ⟨_, _, _, _, hz, _⟩ := h i hi
  exact ⟨hz.1, hz.2.1⟩

/-- The look-up of a pair that stands. -/
theorem look_pair {w : World} {m nn : Nat} {acc : List (ByteArray × ByteArray)} (h : w.ownsMap Try.prog 51 (plainElem Try.prog 4) m nn (setP acc)) {p : ByteArray × ByteArray} (hp : p ∈ acc) (hz : PSz p) :
    (Instr.lookup 44 (.map (some m)) (.agg #[.string p.1, .string p.2]) false).run Try.prog w = .ok (.bool true) w := by
  obtain ⟨v, ps, hrun, hv⟩ := h.lookup keyed51 Try.underlying44 (Try.zeroValue4 w) (plainElem_bool Try.underlying4 false) (keyOf_pair hz.1 hz.2)
  obtain ⟨c, rfl, hc⟩ := plainElem_bool_inv Try.underlying4 hv
  have e := congrArg Prod.fst hc
  rw [show ((p.1, p.2) : ByteArray × ByteArray) = p from rfl, atKey_setP hp] at e
  have : c = true := by simpa using e.symm
  rw [this] at hrun
  exact hrun

def LPost (w : World) (e : Ending) (w' : World) : Prop := e = .returned (.bool true) ∧ Below w.heap.size w w'

set_option maxRecDepth 100000 in
set_option maxHeartbeats 4000000 in
theorem law5_any (a1 a2 a3 : Option Addr) (es : List Ev) (ss : List Sc) (us : List Un) (c1 c2 c3 : Nat) (w : World) (he : EvsAt w.heap.size w a1 es) (hs : ScsAt w.heap.size w a2 ss) (hu : UnsAt w.heap.size w a3 us) (n1 : a1 = none → es = [] ∧ c1 = 0) (n2 : a2 = none → ss = [] ∧ c2 = 0) (n3 : a3 = none → us = [] ∧ c3 = 0)
    (l1 : es.length ≤ maxLen) (l2 : ss.length ≤ maxLen) (l3 : us.length ≤ maxLen) :
    Calls Try.prog 5 #[.slice a1 es.length c1, .slice a2 ss.length c2, .slice a3 us.length c3] w (LPost w) := by
  have hmk : ∀ (z : Int) (w : World), _ := fun z w => run_makeMap_hint (P := Try.prog) Try.underlying44 z w
  go_enter Try.func5, Try.ntmps5
  go_wp2_with fail
  refine (bytes11_any a1 a2 a3 es ss us c1 c2 c3 w w.heap.size he hs hu l1 l2 l3).mono ?_
  rintro e w1 ⟨b, rfl, rfl, hbd⟩
  cases b with
  | false =>
    go_wp2
    go_ret
    exact ⟨rfl, Below.refl _ _⟩
  | true =>
    have hsum := hbd rfl
    clear hbd
    have hr1 := rsum_ssum ss ss.length
    have hr2 := rsum_usum us us.length
    have hb1 := (Below.refl w1.heap.size w1).alloc (Nat.le_refl _) (.cells #[.int .i64 0, .bool false] 42)
    have hm0 : Mtr w1.heap.size (w1.alloc (.cells #[.int .i64 0, .bool false] 42)) := ⟨0, false, heap_alloc_new w1 _, by omega, by omega⟩
    go_wp2_with fail
    refine (addDeclared_any w1.heap.size a1 a2 a3 es ss us c1 c2 c3 _ hm0 (he.keep hb1) (hs.keep hb1) (hu.keep hb1) l1 l2 l3 (fun i hi => by have := ssum_at ss i hi; omega)).mono ?_
    rintro e w2 ⟨rfl, hst⟩
    have hb2 : Below w1.heap.size w1 w2 := hb1.trans hst.2.1
    obtain ⟨u, o, hh, _, _⟩ := hst.1
    have d1 := two_cell1 hh
    clear hm0 hh hst
    cases o with
    | true =>
      go_wp2
      go_ret
      exact ⟨rfl, hb2⟩
    | false =>
      have hz2 := hb2.size
      go_wp2_with fail
      refine (policyOf_any a1 a2 a3 es ss us c1 c2 c3 w2 ((he.keep hb2).wide hz2) ((hs.keep hb2).wide hz2) ((hu.keep hb2).wide hz2) n1 n2 n3 (by omega) (by omega) (by omega) (fun i hi => by have := ssum_at ss i hi; omega) (fun i hi => by have := usum_at us i hi; omega)).mono ?_
      rintro e w3 ⟨Q, rfl, hb3', hP⟩
      have hb3 : Below w1.heap.size w1 w3 := hb2.trans (hb3'.mono hz2)
      clear d1 hb3'
      go_wp2_with fail
      refine (zz_any Q w3 es (GS ss) (GU us) hP (by omega)).mono ?_
      rintro e w4 ⟨m, nn, acc, rfl, hb4', hgot, hacc⟩
      have hz3 := hb3.size
      have hb4 : Below w1.heap.size w1 w4 := hb3.trans (hb4'.mono hz3)
      have hz4 := hb4.size
      clear hP hb4'
      go_wp2_with fail
      refine (pairs_any a1 a2 a3 es ss us c1 c2 c3 w4 ((he.keep hb4).wide hz4) ((hs.keep hb4).wide hz4) ((hu.keep hb4).wide hz4) (by omega) (by omega) (by omega) (by omega)).mono ?_
      rintro e w5 ⟨ap, cp, pl, rfl, ⟨hrow, hb5'⟩, hpll, hpl⟩
      have hb5 : Below w1.heap.size w1 w5 := hb4.trans (hb5'.mono hz4)
      have hgot5 : w5.ownsMap Try.prog 51 (plainElem Try.prog 4) m nn (setP acc) := by
        obtain ⟨es', ck, hh, r⟩ := hgot
        exact ⟨es', ck, (hb5'.block m (lt_of_block hh)).trans hh, r⟩
      have hmem : ∀ p, p ∈ acc ↔ p ∈ pl := fun p => by
        rw [hacc p, hpl, List.mem_append, List.mem_append, mem_all (fun s : Sc => s.key.data.toList) (fun s : Sc => s.rules) ss sc0 p, mem_all (fun s : Un => s.key.data.toList) (fun s : Un => s.rules) us un0 p]
        constructor
        · rintro (h | ⟨k, rl, h | h, h'⟩)
          · exact .inl (.inl h)
          · exact .inl (.inr ⟨k, rl, h, h'⟩)
          · exact .inr ⟨k, rl, h, h'⟩
        · rintro ((h | ⟨k, rl, h, h'⟩) | ⟨k, rl, h, h'⟩)
          · exact .inl h
          · exact .inr ⟨k, rl, .inl h, h'⟩
          · exact .inr ⟨k, rl, .inr h, h'⟩
      have hsz : ∀ p ∈ pl, PSz p := fun p hp => by
        rw [hpl] at hp
        rcases List.mem_append.1 hp with hp | hp
        · rcases List.mem_append.1 hp with hp | hp
          · exact evs_sz he hp
          · obtain ⟨i, hi, _, hp⟩ := (mem_accP _).1 hp
            obtain ⟨_, _, _, _, _, _, _, _, _, _, hR, _⟩ := hs i hi
            exact rls_sz hR hp
        · obtain ⟨i, hi, _, hp⟩ := (mem_accP _).1 hp
          obtain ⟨_, _, _, _, _, _, _, hR, _⟩ := hu i hi
          exact rls_sz hR hp
      have hsame : Maps.size (setP acc) = Maps.size (setP pl) := size_same (lits_pkey acc) (lits_pkey pl) (fun x => by
        rw [List.mem_map, List.mem_map]
        exact ⟨fun ⟨p, h1, h2⟩ => ⟨p, (hmem p).1 h1, h2⟩, fun ⟨p, h1, h2⟩ => ⟨p, (hmem p).2 h1, h2⟩⟩)
      clear hacc hpl hgot he hs hu n1 n2 n3 hsum hr1 hr2 hb1 hb2 hb3 hb4
      have hm5 := hgot5.lt
      have hD0 := World.ownsMap_made w5 Try.prog 51 (plainElem (H := Unit) Try.prog 4)
      have hg0 := hgot5.alloc (.map #[] 0)
      have hr0 := hrow.alloc (.map #[] 0)
      have hz5 := hb5.size
      have hz45 := hb5'.size
      have hB0 : Below w1.heap.size w1 (w5.alloc (.map #[] 0)) := hb5.alloc hz5 _
      clear hgot5 hrow hb5 hb5'
      go_wp2_with fail
      go_loopw [11] (fun i wr => ∃ k : Nat, k ≤ pl.length ∧ i = .int .i64 k ∧ wr.ownsMap Try.prog 51 (plainElem Try.prog 4) m nn (setP acc) ∧ wr.ownsMap Try.prog 51 (plainElem Try.prog 4) w5.heap.size k (setP (pl.take k)) ∧ wr.ownsRow w4.heap.size 51 2 (.slice ap pl.length cp) pl.length (flat pl) ∧ Below w1.heap.size w1 wr) (fun i _ => pl.length - (intOf i).toNat)
      case atStart => exact ⟨0, Nat.zero_le _, rfl, hg0, hD0, hr0, hB0⟩
      case round =>
        obtain ⟨k, hk, rfl, hgot, hdis, hrow, hB⟩ := hrel
        by_cases hlt : k < pl.length
        · have htk := take_snoc (e0, e0) hlt
          have hmp : pl.getD k (e0, e0) ∈ pl := by rw [List.getD_eq_getElem?_getD, List.getElem?_eq_getElem hlt]; exact List.getElem_mem hlt
          obtain ⟨f0, f1⟩ := flat_get (e0, e0) pl k hlt
          generalize pl.getD k (e0, e0) = p at *
          obtain ⟨en, evn⟩ := p
          have hpz := hsz _ hmp
          have hrunL := look_pair hgot ((hmem _).2 hmp) hpz
          obtain ⟨w6, hrunU, hdis2, hgr⟩ := hdis.update keyed51 Try.underlying44 (by unfold maxLen; omega) (keyOf_pair hpz.1 hpz.2) (plainElem_bool Try.underlying4 true)
          have hne := rowP_ne hdis hrow
          have hrow2 := hrow.kept hgr hne
          have hgot2 := hgot.kept hgr (fun e => by have := Option.some.inj e; omega)
          have hB2 : Below w1.heap.size w1 w6 := hB.grown hgr hB.size (fun q e => by cases e; exact hz5)
          have hdis3 : w6.ownsMap Try.prog 51 (plainElem Try.prog 4) w5.heap.size (k + 1) (setP (pl.take (k + 1))) := by rw [htk, setP_snoc]; exact hdis2
          rcases hrow.2 with ⟨_, h0⟩ | ⟨g, cap, cur, hv, _⟩
          · omega
          · cases hv
            have q0 := hrow.cells rfl _ _ f0
            have q1 := hrow.cells rfl _ _ f1
            have e0' : (⟨g, 0, none⟩ : Addr).add (k * 2) = ⟨g, k * 2, none⟩ := by simp [Addr.add]; omega
            have e1' : (⟨g, 0, none⟩ : Addr).add (k * 2 + 1) = ⟨g, k * 2 + 1, none⟩ := by simp [Addr.add]
            rw [e0'] at q0
            rw [e1'] at q1
            simp only at q0 q1 hrunL
            clear hne hgr hdis2 f0 f1 hsz hmem e0' e1' hB hrow hgot hdis
            go_wp2
            go_roundw
            case rel => exact ⟨k + 1, by omega, by go_num, hgot2, hdis3, hrow2, hB2⟩
            case measure => simp [intOf]; omega
        · obtain rfl : k = pl.length := by omega
          rw [List.take_length] at hdis
          have hl1 : ∀ ty, (Builtin.len_ #[44] ty #[.map (some m)]).run Try.prog wr = .ok (.int .i64 ((Maps.size (setP pl) : Nat) : Int)) wr := fun ty => by rw [← hsame]; exact hgot.len Try.underlying44 ty
          have hl2 : ∀ ty, (Builtin.len_ #[44] ty #[.map (some w5.heap.size)]).run Try.prog wr = .ok (.int .i64 ((Maps.size (setP pl) : Nat) : Int)) wr := fun ty => hdis.len Try.underlying44 ty
          generalize Maps.size (setP pl) = S at hl1 hl2
          clear hsame hmem hsz hgot hdis hrow
          go_wp2
          go_ret
          exact ⟨rfl, hB⟩
end Go.Proofs.Qxb6616144a
