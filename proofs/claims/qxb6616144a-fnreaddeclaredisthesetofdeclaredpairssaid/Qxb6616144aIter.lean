import Derived.Test.Qxb6616144aFill
import Derived.RangeFuncNested
import Derived.RangeFuncBound
import Derived.RangeFuncCalls
import Derived.RangeFuncLeaves
import Derived.Shelf.Abstract
import Derived.Shelf.RegionOpen
import Derived.OwnWalkIn
import Derived.TacticsInMore
import Derived.LoopNIn
import Derived.LoopIn
namespace Go.Proofs.Qxb6616144a
open Go.RowKit Go.Maps Go.Sort Go.Shelf
attribute [local go_sem] Oper.semAt_some

/-! ### Maps whose elements read as themselves; nil or not -/
def hR (v : Value) : Option (DataW Value × List MemPlace) := some (.held v, [])
def OwnsO (w : World) (m : Option Nat) (nn : Nat) (D : DataW Value) : Prop :=
  match m with
  | none => D = .map []
  | some b => w.ownsMap Try.prog 9 hR b nn D
def RangesO (w : World) (m : Option Nat) (r nn : Nat) (D : DataW Value) (left : Lit → Bool) (cnt : Nat) : Prop :=
  match m with
  | none => w.heap[r]? = some (.mapIter none 0 #[] 0) ∧ D = .map [] ∧ (∀ kl, left kl = false) ∧ cnt = 0
  | some b => w.ranges Try.prog 9 hR b r nn D left cnt
def leftO (w : World) (m : Option Nat) (r : Nat) : Nat :=
  match m with
  | none => 0
  | some b => w.rangeLeft b r
theorem RangesO.left_eq {w : World} {m : Option Nat} {r nn : Nat} {D : DataW Value} {left : Lit → Bool} {cnt : Nat} (h : RangesO w m r nn D left cnt) : leftO w m r = cnt := by
  cases m with
  | none => exact h.2.2.2.symm
  | some b => exact World.ranges.left_eq h
theorem RangesO.walk {w : World} {m : Option Nat} {r nn : Nat} {D : DataW Value} {left : Lit → Bool} {cnt : Nat} (h : RangesO w m r nn D left cnt) : ∃ o : Obj, w.heap[r]? = some o ∧ o.isWalk = true := by
  cases m with
  | none => exact ⟨_, h.1, rfl⟩
  | some b => exact World.ranges.iter_walk h
theorem RangesO.keep {w w' : World} {m : Option Nat} {r nn : Nat} {D : DataW Value} {left : Lit → Bool} {cnt : Nat} (h : RangesO w m r nn D left cnt) (hr : ∀ o, w.heap[r]? = some o → o.isWalk = true → w'.heap[r]? = some o) (hm : ∀ b, m = some b → w'.heap[b]? = w.heap[b]?) : RangesO w' m r nn D left cnt := by
  cases m with
  | none => exact ⟨hr _ h.1 rfl, h.2⟩
  | some b =>
    obtain ⟨es, clock, since, seen, c0, hb, F, hs, hD, hri, rest⟩ := h
    exact ⟨es, clock, since, seen, c0, (hm b rfl).trans hb, F, hs, hD, hr _ hri rfl, rest⟩
theorem run_next_none {P : Program} {w : World} {r : Nat} (h : w.heap[r]? = some (.mapIter none 0 #[] 0)) (ty : TypeId) : (Instr.next (.pointer (some ⟨r, 0, none⟩)) false ty).run P w = .ok (.tuple #[.bool false]) w := by
  simp only [Instr.next, getObj, Sem.run_bind, Sem.run, h, Result.andThen]
  rfl

section
variable {F : Fence} {n : Nat} (w : World) {ops : Array Oper} {rest : List Oper} {o : Oper} {a : Act} {Q : Exit → Act → World → Prop}
theorem wpListIn_range_O (hg : o.guard = none) (m : Operand) (t e : TypeId) (hop : o.op = Op.range t m) (ht : Try.prog.underlying t = some (.map 9 e)) (b : Option Nat) (nn : Nat) (D : DataW Value)
    (hm : a.eval m = .map b) (hown : OwnsO w b nn D)
    (hK : ∀ w', RangesO w' b w.heap.size nn D (Maps.has D) (Maps.size D) → w.grownBy w' none → w'.heap.size = w.heap.size + 1 → wpListIn F n Try.prog ops Q rest (a.put o.dst (.pointer (some ⟨w.heap.size, 0, none⟩))) w') :
    wpListIn F n Try.prog ops Q (o :: rest) a w := by
  cases b with
  | some b => exact wpListIn_range_own w hg m t hop 9 e keyed9 ht hR b nn D hm hown hK
  | none =>
    obtain rfl : D = .map [] := hown
    refine wpListIn_plain hg fun K' hK' => ?_
    unfold Oper.wpIn
    refine ⟨by simp [Oper.about, hop], ?_⟩
    rw [Oper.semAt_plain F _ _ (by rw [hop]; intro c hc'; cases hc')]
    simp [execOp, hop, hm, run_range_nilMap w t 9 e ht, Result.andThen]
    exact hK' _ _ (hK _ ⟨heap_alloc_new w _, rfl, fun _ => rfl, rfl⟩ (World.grownBy_alloc w _ none) (by simp))
theorem wpListIn_next_O (hg : o.guard = none) (it : Operand) (hop : o.op = Op.next it false) (b : Option Nat) (r nn : Nat) (D : DataW Value) (left : Lit → Bool) (cnt : Nat)
    (hit : a.eval it = .pointer (some ⟨r, 0, none⟩)) (h : RangesO w b r nn D left cnt)
    (hDone : cnt = 0 → (∀ kl, left kl = false) → wpListIn F n Try.prog ops Q rest (a.put o.dst (.tuple #[.bool false])) w)
    (hMore : ∀ (x : List UInt8) (v : Value) (w' : World) (cnt' : Nat), left (.string x) = true → (∀ zd, D.atKey (.string x) zd = .held v) → RangesO w' b r nn D (fun z => left z && !z.sameKey (.string x)) cnt' → cnt' < cnt →
      w.grownBy w' (some r) → w'.heap.size = w.heap.size → (Instr.entry (.pointer (some ⟨r, 0, none⟩))).run Try.prog w' = .ok (.tuple #[encStr x, v]) w' → wpListIn F n Try.prog ops Q rest (a.put o.dst (.tuple #[.bool true, encStr x, v])) w') :
    wpListIn F n Try.prog ops Q (o :: rest) a w := by
  cases b with
  | some b =>
    refine wpListIn_next_ranges w hg it hop 9 keyed9 hR encStr (fun v : Value => v) (fun key kl hk => by obtain ⟨x, hx, _⟩ := Maps.keyOf_str Try.underlying9 hk; exact ⟨x, hx⟩) (fun v y hv => ⟨v, rfl⟩) b r nn D left cnt hit h hDone ?_
    intro x c kl y w' cnt' hkey hlk hv hat hrg hlt hgr hsz hen
    obtain ⟨x', ex, rfl, _⟩ := Maps.keyOf_str Try.underlying9 hkey
    obtain rfl : x = x' := encStr_inj ex
    exact hMore x c w' cnt' hlk (fun zd => by rw [hat zd]; cases hv; rfl) hrg hlt hgr hsz hen
  | none =>
    refine wpListIn_plain hg fun K' hK' => ?_
    unfold Oper.wpIn
    refine ⟨by simp [Oper.about, hop], ?_⟩
    rw [Oper.semAt_plain F _ _ (by rw [hop]; intro c hc'; cases hc')]
    simp [execOp, hop, hit, run_next_none h.1, Result.andThen]
    exact hK' _ _ (hDone h.2.2.2 h.2.2.1)
end

/-! ### What a policy's map of rules holds -/
def Sh4 (v s : Value) : Prop := ∃ x y au nu cu, v = .agg #[.string x, .string y, .slice au nu cu, s]
def Sh2 (v s : Value) : Prop := ∃ x, v = .agg #[.string x, s]
/-- The map m lies below n₀; at the keys of G, and at no others, stands a value whose last part is a slice of G's rules there. -/
def RMap (Sh : Value → Value → Prop) (n₀ : Nat) (w : World) (m : Option Nat) (G : List UInt8 → Option (List Rl)) : Prop :=
  ∃ nn D, OwnsO w m nn D ∧ (∀ b, m = some b → b < n₀) ∧ nn ≤ 1048576 ∧
    ∀ k, (has D (.string k) = true ↔ (G k).isSome = true) ∧ ∀ rl, G k = some rl → ∃ v ar cr, (∀ zd, D.atKey (.string k) zd = .held v) ∧ Sh v (.slice ar rl.length cr) ∧ RlsAt n₀ w ar rl ∧ rl.length ≤ 1048576
theorem OwnsO.keep {w w' : World} {m : Option Nat} {nn : Nat} {D : DataW Value} (h : OwnsO w m nn D) (hm : ∀ b, m = some b → w'.heap[b]? = w.heap[b]?) : OwnsO w' m nn D := by
  cases m with
  | none => exact h
  | some b =>
    obtain ⟨es, clock, hb, r⟩ := h
    exact ⟨es, clock, (hm b rfl).trans hb, r⟩
theorem ownsO_size {w : World} {m : Option Nat} {nn : Nat} {D : DataW Value} (h : OwnsO w m nn D) : Maps.size D ≤ nn := by
  cases m with
  | none => obtain rfl : D = .map [] := h; exact Nat.zero_le _
  | some b => exact World.ownsMap.size_le h
theorem RMap.keep {Sh : Value → Value → Prop} {n₀ : Nat} {w w' : World} {m : Option Nat} {G : List UInt8 → Option (List Rl)} (h : RMap Sh n₀ w m G) (k : Below n₀ w w') : RMap Sh n₀ w' m G := by
  obtain ⟨nn, D, h1, h2, h3, h4⟩ := h
  refine ⟨nn, D, h1.keep (fun b e => k.block b (h2 b e)), h2, h3, fun x => ⟨(h4 x).1, fun rl e => ?_⟩⟩
  obtain ⟨v, ar, cr, q1, q2, q3, q4⟩ := (h4 x).2 rl e
  exact ⟨v, ar, cr, q1, q2, q3.keep k, q4⟩

/-- What the iterator hands over: a slice of rules that lie below n₀ in the world w0. -/
structure RSl (n₀ : Nat) (w0 : World) where
  ad : Option Addr
  rl : List Rl
  cap : Nat
  at' : RlsAt n₀ w0 ad rl
  le : rl.length ≤ 1048576
def RSl.enc {n₀ : Nat} {w0 : World} (x : RSl n₀ w0) : Array Value := #[.slice x.ad x.rl.length x.cap]
def pairs (rl : List Rl) : List (ByteArray × ByteArray) := rl.map fun r => (r.entity, r.event)
/-- All have come: their pairs are those of the maps. -/
def AllCame {n₀ : Nat} {w0 : World} (G1 G2 : List UInt8 → Option (List Rl)) (xs : List (RSl n₀ w0)) : Prop :=
  ∀ p, (∃ x ∈ xs, p ∈ pairs x.rl) ↔ ∃ k rl, (G1 k = some rl ∨ G2 k = some rl) ∧ p ∈ pairs rl
/-- What a round keeps for the iterator. -/
def KpR (n₀ B₀ Bp : Nat) (W W' : World) : Prop :=
  Below n₀ W W' ∧ (∀ k o, B₀ ≤ k → W.heap[k]? = some o → o.isWalk = true → W'.heap[k]? = some o) ∧ W'.heap[Bp]? = W.heap[Bp]?
theorem kpR_t {n₀ B₀ Bp : Nat} {A B C : World} (h : KpR n₀ B₀ Bp A B) (k : KpR n₀ B₀ Bp B C) : KpR n₀ B₀ Bp A C :=
  ⟨h.1.trans k.1, fun i o hi ho hw => k.2.1 i o hi (h.2.1 i o hi ho hw) hw, k.2.2.trans h.2.2⟩
theorem kpR_b {n₀ B₀ Bp : Nat} {w : World} (hn : n₀ ≤ w.heap.size) (hB : Bp < w.heap.size) (W : World) (l : Nat) (o o' : Obj) (hl : w.heap.size ≤ l) (h : W.heap[l]? = some o) (hc : o.isCells = false) (hw : o.isWalk = false) : KpR n₀ B₀ Bp W (W.putObj l o') := by
  refine ⟨belowK_b hn W l o o' hl h hc hw, fun k q _ hk hq => ?_, World.putObj_heap_other (by omega)⟩
  have : k ≠ l := fun e => by rw [e, h] at hk; cases hk; rw [hw] at hq; cases hq
  exact (World.putObj_heap_other this).trans hk

set_option maxRecDepth 100000 in
set_option maxHeartbeats 2000000 in
theorem lists1_in (F : Fence) (n : Nat) (h27 : F.fn 27) (hro : F.round = none) (hn : 1 ≤ n) (l Bp Q n₀ B₀ : Nat) (w0 : World) (m1 m2 : Option Nat) (G1 G2 : List UInt8 → Option (List Rl)) (J Jx : List (RSl n₀ w0) → World → Prop)
    (hY : ∀ pre x W, J pre W → pre.length < 2097152 → YieldAt F (n - 1) Try.prog l x.enc W fun e W' =>
      (e = .returned (.bool true) ∧ J (pre ++ [x]) W' ∧ KpR n₀ B₀ Bp W W') ∨ (e = .returned (.bool false) ∧ Jx (pre ++ [x]) W'))
    (W : World) (hJ : AbidesFrom W.heap.size J) (hW : Below n₀ w0 W) (hBW : B₀ ≤ W.heap.size) (hn0 : n₀ ≤ B₀) (hBp : Bp < B₀) (hQ : Q < n₀)
    (hm : W.cell? ⟨Bp, 0, none⟩ = some (.pointer (some ⟨Q, 0, none⟩))) (hc1 : W.cell? ⟨Q, 5, none⟩ = some (.map m1)) (hc2 : W.cell? ⟨Q, 6, none⟩ = some (.map m2)) (hM1 : RMap Sh4 n₀ w0 m1 G1) (hM2 : RMap Sh2 n₀ w0 m2 G2) (h0 : J [] W) :
    CallsIn F n Try.prog 27 #[.func (.yield l) #[] #[], .pointer (some ⟨Bp, 0, none⟩)] W fun e W' => (∃ v, e = .returned v) ∧
      ((∃ xs, AllCame G1 G2 xs ∧ J xs W') ∨ (∃ pre, True ∧ Jx pre W')) := by
  have hM1' := hM1
  have hM2' := hM2
  obtain ⟨nn1, D1, ho1, hb1, hn1, hk1⟩ := hM1
  obtain ⟨nn2, D2, ho2, hb2, hn2, hk2⟩ := hM2
  have ho1W : OwnsO W m1 nn1 D1 := ho1.keep (fun b e => hW.block b (hb1 b e))
  have hz1 : Maps.size D1 ≤ 1048576 := Nat.le_trans (ownsO_size ho1) hn1
  have hz2 : Maps.size D2 ≤ 1048576 := Nat.le_trans (ownsO_size ho2) hn2
  refine callsIn_of_wp Try.func27 rfl h27 ?_ hro
  simp only [Try.ntmps27, List.size_toArray, List.length_cons, List.length_nil, Nat.reduceAdd, Nat.reduceSub, Array.replicate_succ, Array.replicate_zero, List.push_toArray, List.append_toArray, List.nil_append, List.cons_append]
  gi_wp2_with (first
    | (gi_at_range; refine wpListIn_range_O _ rfl _ 95 104 rfl Try.underlying95 _ nn1 D1 rfl ho1W ?_; intro w1 hrg1 hg1 hs1)
    | gi_in)
  go_frame
  gi_loopw [4] (fun _ wr => ∃ (left : Lit → Bool) (cnt : Nat) (ps : List (List UInt8 × RSl n₀ w0)), RangesO wr m1 W.heap.size nn1 D1 left cnt ∧ ps.length + cnt ≤ Maps.size D1 ∧ Collected D1 left (ps.map (·.1)) ∧ (∀ p ∈ ps, G1 p.1 = some p.2.rl) ∧ Below n₀ w0 wr ∧ wr.heap[Bp]? = W.heap[Bp]? ∧ W.heap.size < wr.heap.size ∧ J (ps.map (·.2)) wr)
    (fun _ wr => leftO wr m1 W.heap.size)
  case atStart =>
    exact ⟨_, _, [], hrg1, by simp, Collected.start D1, by simp, hW.trans ((Below.refl n₀ W).grown hg1 (by omega) (fun k e => by cases e)), hg1.block Bp (by omega) (by simp), by omega, hJ [] W w1 none h0 hg1 (fun r e => by cases e)⟩
  case round =>
    obtain ⟨left, cnt, ps, hrg, hcs, hC, hV, hbw, hbp, hsz, hJs⟩ := hrel
    gi_wp2_with (first
      | (gi_at_next; refine wpListIn_next_O _ rfl _ rfl _ W.heap.size nn1 D1 left cnt rfl hrg ?_ ?_)
      | gi_in)
    · intro hc0 hl0
      -- the first map is through
      obtain ⟨wa, hwa⟩ : ∃ wa, wa = wr := ⟨_, rfl⟩
      subst hwa
      have hmb : wa.cell? ⟨Bp, 0, none⟩ = some (.pointer (some ⟨Q, 0, none⟩)) := (World.cell?_of_block hbp).trans hm
      have hcb : wa.cell? ⟨Q, 6, none⟩ = some (.map m2) := by
        rw [hbw.cell (p := ⟨Q, 6, none⟩) hQ, ← hW.cell (p := ⟨Q, 6, none⟩) hQ]; exact hc2
      have ho2W : OwnsO wa m2 nn2 D2 := ho2.keep (fun b e => hbw.block b (hb2 b e))
      have hCa := hC
      have hVa := hV
      have hAll1 : ∀ k rl, G1 k = some rl → ∃ p ∈ ps, p.1 = k ∧ p.2.rl = rl := fun k rl hG => by
        have hh := (hk1 k).1.2 (by rw [hG]; rfl)
        obtain ⟨p, hp, e⟩ := List.mem_map.1 ((hC.2 k).2 ⟨hh, hl0 _⟩)
        refine ⟨p, hp, e, ?_⟩
        have := hV p hp
        rw [e, hG] at this
        exact (Option.some.inj this).symm
      have hsum1 : ps.length ≤ 1048576 := by omega
      obtain ⟨ps1, hps1⟩ : ∃ ps1, ps1 = ps := ⟨_, rfl⟩
      subst hps1
      have hba := hbw
      have hbpa := hbp
      clear hrg hcs hC hV hbw hbp hc0 hl0
      gi_wp2_with (first
        | (gi_at_range; refine wpListIn_range_O _ rfl _ 96 106 rfl Try.underlying96 _ nn2 D2 rfl ho2W ?_; intro w1b hrg1b hg1b hs1b)
        | gi_in)
      go_frame
      gi_loopw [6] (fun _ wr => ∃ (left : Lit → Bool) (cnt : Nat) (ps : List (List UInt8 × RSl n₀ w0)), RangesO wr m2 wa.heap.size nn2 D2 left cnt ∧ ps.length + cnt ≤ Maps.size D2 ∧ Collected D2 left (ps.map (·.1)) ∧ (∀ p ∈ ps, G2 p.1 = some p.2.rl) ∧ Below n₀ w0 wr ∧ wr.heap[Bp]? = W.heap[Bp]? ∧ wa.heap.size < wr.heap.size ∧ J (ps1.map (·.2) ++ ps.map (·.2)) wr)
        (fun _ wr => leftO wr m2 wa.heap.size)
      case atStart =>
        exact ⟨_, _, [], hrg1b, by simp, Collected.start D2, by simp, hba.trans ((Below.refl n₀ wa).grown hg1b (by omega) (fun k e => by cases e)), (hg1b.block Bp (by omega) (by simp)).trans hbpa, by omega, by simpa using hJ _ _ w1b none hJs hg1b (fun r e => by cases e)⟩
      case round =>
        obtain ⟨left, cnt, ps, hrg, hcs, hC, hV, hbw, hbp, hsz, hJs⟩ := hrel
        gi_wp2_with (first
          | (gi_at_next; refine wpListIn_next_O _ rfl _ rfl _ wa.heap.size nn2 D2 left cnt rfl hrg ?_ ?_)
          | gi_in)
        · intro hc0 hl0
          have hAll2 : ∀ k rl, G2 k = some rl → ∃ p ∈ ps, p.1 = k ∧ p.2.rl = rl := fun k rl hG => by
            have hh := (hk2 k).1.2 (by rw [hG]; rfl)
            obtain ⟨p, hp, e⟩ := List.mem_map.1 ((hC.2 k).2 ⟨hh, hl0 _⟩)
            refine ⟨p, hp, e, ?_⟩
            have := hV p hp
            rw [e, hG] at this
            exact (Option.some.inj this).symm
          gi_wp2
          go_end0
          refine ⟨⟨_, rfl⟩, .inl ⟨_, ?_, hJs⟩⟩
          intro p
          constructor
          · rintro ⟨x, hx, hp⟩
            rcases List.mem_append.1 hx with hx | hx
            · obtain ⟨q, hq, rfl⟩ := List.mem_map.1 hx
              exact ⟨q.1, q.2.rl, .inl (hVa q hq), hp⟩
            · obtain ⟨q, hq, rfl⟩ := List.mem_map.1 hx
              exact ⟨q.1, q.2.rl, .inr (hV q hq), hp⟩
          · rintro ⟨k, rl, hG | hG, hp⟩
            · obtain ⟨q, hq, _, rfl⟩ := hAll1 k rl hG
              exact ⟨q.2, List.mem_append.2 (.inl (List.mem_map.2 ⟨q, hq, rfl⟩)), hp⟩
            · obtain ⟨q, hq, _, rfl⟩ := hAll2 k rl hG
              exact ⟨q.2, List.mem_append.2 (.inr (List.mem_map.2 ⟨q, hq, rfl⟩)), hp⟩
        · intro x v w2 cnt2 hlk hat hrg2 hlt hg2 hs2 hen
          obtain ⟨rl, hG⟩ := Option.isSome_iff_exists.1 ((hk2 x).1.1 (has_true_of_atKey hat))
          obtain ⟨v', ar, cr, hat', ⟨x1, rfl⟩, hrl, hle⟩ := (hk2 x).2 rl hG
          obtain rfl : v = _ := DataW.held.inj ((hat (.map [])).symm.trans (hat' (.map [])))
          have hJ2 : J (ps1.map (·.2) ++ ps.map (·.2)) w2 := hJ _ wr w2 (some wa.heap.size) hJs hg2 (fun r e => by cases e; exact ⟨by omega, hrg.walk⟩)
          have hJ3 : J (ps1.map (·.2) ++ ps.map (·.2)) (w2.alloc (.cells #[.string x1, .slice ar rl.length cr] 106)) := hJ _ _ _ none hJ2 (World.grownBy_alloc _ _ none) (fun r e => by cases e)
          obtain ⟨fn, tmps, assign, body, hy, hR⟩ := hY (ps1.map (·.2) ++ ps.map (·.2)) ⟨ar, rl, cr, hrl, hle⟩ _ hJ3 (by simp; omega)
          dsimp only [RSl.enc] at hy
          have hbw2 : Below n₀ w0 w2 := hbw.trans ((Below.refl n₀ wr).grown hg2 (by omega) (fun k e => by cases e; omega))
          have hbp2 : w2.heap[Bp]? = W.heap[Bp]? := (hg2.block Bp (by omega) (by intro e; cases e; omega)).trans hbp
          have hs2' := hs2
          clear hs2
          gi_wp2
          refine hR.mono ?_
          have hC2 : Collected D2 (fun z => left z && !z.sameKey (.string x)) ((ps ++ [(x, (⟨ar, rl, cr, hrl, hle⟩ : RSl n₀ w0))]).map (·.1)) := by simpa using hC.step hlk hat
          have hV2 : ∀ p ∈ ps ++ [(x, (⟨ar, rl, cr, hrl, hle⟩ : RSl n₀ w0))], G2 p.1 = some p.2.rl := fun p hp => (List.mem_append.1 hp).elim (hV p) (fun e => by simp at e; subst e; exact hG)
          rintro e W3 (⟨rfl, hJ4, hk3⟩ | ⟨rfl, hJx3⟩)
          · gi_wp2
            have hrg3 : RangesO W3 m2 wa.heap.size nn2 D2 (fun z => left z && !z.sameKey (.string x)) cnt2 := (hrg2.keep (fun o ho _ => (Below.heap_alloc _ _ _ (lt_of_block ho)).trans ho) (fun b e => Below.heap_alloc _ _ _ (by have := hb2 b e; omega))).keep (fun o ho hw => hk3.2.1 _ o (by omega) ho hw) (fun b e => hk3.1.block b (hb2 b e))
            have hb3 : Below n₀ w0 W3 := (hbw2.alloc (by omega) _).trans hk3.1
            have hsz3 := hk3.1.size
            rw [World.size_alloc] at hsz3
            go_roundw
            case rel => exact ⟨_, cnt2, ps ++ [(x, ⟨ar, rl, cr, hrl, hle⟩)], hrg3, by simp; omega, hC2, hV2, hb3, (hk3.2.2.trans (Below.heap_alloc _ _ _ (by omega))).trans hbp2, by omega, by simpa using hJ4⟩
            case measure => rw [hrg3.left_eq, hrg.left_eq]; exact hlt
          · gi_wp2
            refine bodyPost_ret (results_none rfl _ _ _) rfl ?_
            exact ⟨⟨_, rfl⟩, .inr ⟨_, trivial, hJx3⟩⟩
    · intro x v w2 cnt2 hlk hat hrg2 hlt hg2 hs2 hen
      obtain ⟨rl, hG⟩ := Option.isSome_iff_exists.1 ((hk1 x).1.1 (has_true_of_atKey hat))
      obtain ⟨v', ar, cr, hat', ⟨x1, x2, au, nu, cu, rfl⟩, hrl, hle⟩ := (hk1 x).2 rl hG
      obtain rfl : v = _ := DataW.held.inj ((hat (.map [])).symm.trans (hat' (.map [])))
      have hJ2 : J (ps.map (·.2)) w2 := hJ _ wr w2 (some W.heap.size) hJs hg2 (fun r e => by cases e; exact ⟨Nat.le_refl _, hrg.walk⟩)
      have hJ3 : J (ps.map (·.2)) (w2.alloc (.cells #[.string x1, .string x2, .slice au nu cu, .slice ar rl.length cr] 104)) := hJ _ _ _ none hJ2 (World.grownBy_alloc _ _ none) (fun r e => by cases e)
      obtain ⟨fn, tmps, assign, body, hy, hR⟩ := hY (ps.map (·.2)) ⟨ar, rl, cr, hrl, hle⟩ _ hJ3 (by simp; omega)
      dsimp only [RSl.enc] at hy
      have hbw2 : Below n₀ w0 w2 := hbw.trans ((Below.refl n₀ wr).grown hg2 (by omega) (fun k e => by cases e; omega))
      have hbp2 : w2.heap[Bp]? = W.heap[Bp]? := (hg2.block Bp (by omega) (by intro e; cases e; omega)).trans hbp
      have hs2' := hs2
      clear hs2
      gi_wp2
      refine hR.mono ?_
      have hC2 : Collected D1 (fun z => left z && !z.sameKey (.string x)) ((ps ++ [(x, (⟨ar, rl, cr, hrl, hle⟩ : RSl n₀ w0))]).map (·.1)) := by simpa using hC.step hlk hat
      have hV2 : ∀ p ∈ ps ++ [(x, (⟨ar, rl, cr, hrl, hle⟩ : RSl n₀ w0))], G1 p.1 = some p.2.rl := fun p hp => (List.mem_append.1 hp).elim (hV p) (fun e => by simp at e; subst e; exact hG)
      rintro e W3 (⟨rfl, hJ4, hk3⟩ | ⟨rfl, hJx3⟩)
      · gi_wp2
        have hrg3 : RangesO W3 m1 W.heap.size nn1 D1 (fun z => left z && !z.sameKey (.string x)) cnt2 := (hrg2.keep (fun o ho _ => (Below.heap_alloc _ _ _ (lt_of_block ho)).trans ho) (fun b e => Below.heap_alloc _ _ _ (by have := hb1 b e; omega))).keep (fun o ho hw => hk3.2.1 _ o (by omega) ho hw) (fun b e => hk3.1.block b (hb1 b e))
        have hb3 : Below n₀ w0 W3 := (hbw2.alloc (by omega) _).trans hk3.1
        have hsz3 := hk3.1.size
        rw [World.size_alloc] at hsz3
        go_roundw
        case rel => exact ⟨_, cnt2, ps ++ [(x, ⟨ar, rl, cr, hrl, hle⟩)], hrg3, by simp; omega, hC2, hV2, hb3, (hk3.2.2.trans (Below.heap_alloc _ _ _ (by omega))).trans hbp2, by omega, by simpa using hJ4⟩
        case measure => rw [hrg3.left_eq, hrg.left_eq]; exact hlt
      · gi_wp2
        refine bodyPost_ret (results_none rfl _ _ _) rfl ?_
        exact ⟨⟨_, rfl⟩, .inr ⟨_, trivial, hJx3⟩⟩

/-- **The iterator's contract.** -/
theorem lists_stops (F : Fence) (n : Nat) (h27 : F.fn 27) (hro : F.round = none) (hn : 1 ≤ n) (Bp Q n₀ : Nat) (w : World) (m1 m2 : Option Nat) (G1 G2 : List UInt8 → Option (List Rl)) (hn0 : n₀ ≤ w.heap.size) (hBp : Bp < w.heap.size) (hQ : Q < n₀)
    (hm : w.cell? ⟨Bp, 0, none⟩ = some (.pointer (some ⟨Q, 0, none⟩))) (hc1 : w.cell? ⟨Q, 5, none⟩ = some (.map m1)) (hc2 : w.cell? ⟨Q, 6, none⟩ = some (.map m2)) (hM1 : RMap Sh4 n₀ w m1 G1) (hM2 : RMap Sh2 n₀ w m2 G2) :
    SeqStopsK F n Try.prog 27 #[.pointer (some ⟨Bp, 0, none⟩)] (RSl.enc (n₀ := n₀) (w0 := w)) (KpR n₀ w.heap.size Bp) (AllCame G1 G2) (fun _ => True) 2097152 w := fun l J Jx W hW hJ _ hY h0 =>
  lists1_in F n h27 hro hn l Bp Q n₀ w.heap.size w m1 m2 G1 G2 J Jx hY W hJ (hW.mono hn0) hW.size hn0 hBp hQ ((hW.cell (p := ⟨Bp, 0, none⟩) hBp).trans hm)
    ((hW.cell (p := ⟨Q, 5, none⟩) (by show Q < _; omega)).trans hc1) ((hW.cell (p := ⟨Q, 6, none⟩) (by show Q < _; omega)).trans hc2) hM1 hM2 h0

set_option maxHeartbeats 1000000 in
/-- **p.ruleLists()**: the receiver is boxed; the function value captures the box. -/
theorem ruleLists_in (F : Fence) (n : Nat) (h24 : F.fn 24) (hro : F.round = none) (p : Option Addr) (w : World) :
    CallsIn F n Try.prog 24 #[.pointer p] w fun e w' => e = .returned (.func (.func 27) #[] #[.pointer (some ⟨w.heap.size, 0, none⟩)]) ∧ w' = w.alloc (.cells #[.pointer p] 46) := by
  refine callsIn_of_wp Try.func24 rfl h24 ?_ hro
  simp only [Try.ntmps24, List.size_toArray, List.length_cons, List.length_nil, Nat.reduceAdd, Nat.reduceSub, Array.replicate_succ, Array.replicate_zero, List.push_toArray, List.append_toArray, List.nil_append, List.cons_append]
  gi_wp2
  go_ret
  exact ⟨rfl, rfl⟩
end Go.Proofs.Qxb6616144a
