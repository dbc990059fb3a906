import Derived.Test.Qxb6616144aOf
namespace Go.Proofs.Qxb6616144a
open Go.RowKit

/-- The cells of a row of Approvals. -/
def apvs (xs : List ByteArray) : List Value := xs.flatMap apv
theorem apvs_length (xs : List ByteArray) : (apvs xs).length = xs.length * 10 := by
  induction xs with
  | nil => rfl
  | cons x xs ih => simp only [apvs, List.flatMap_cons, List.length_append, List.length_cons] at ih ⊢; rw [ih]; simp [apv]; omega
theorem apvs_get (xs : List ByteArray) : ∀ i j, i < xs.length → j < 10 → (apvs xs)[i * 10 + j]? = (apv (xs.getD i ByteArray.empty))[j]? := by
  induction xs with
  | nil => intro i j hi; simp at hi
  | cons x xs ih =>
    intro i j hi hj
    have hl : (apv x).length = 10 := rfl
    show (apv x ++ apvs xs)[i * 10 + j]? = _
    cases i with
    | zero => rw [List.getElem?_append_left (by rw [hl]; omega)]; simp
    | succ i =>
      rw [List.getElem?_append_right (by rw [hl]; omega), hl, show (i + 1) * 10 + j - 10 = i * 10 + j by omega, ih i j (by simpa using hi) hj]
      rfl
theorem apvs_snoc (xs : List ByteArray) (s : ByteArray) : apvs xs ++ apv s = apvs (xs ++ [s]) := by simp [apvs]

theorem own_at {w : World} {base : Nat} {v : Value} {xs : List ByteArray} (h : w.ownsRow base 33 10 v xs.length (apvs xs)) : ∃ a cap, v = .slice a xs.length cap ∧ ApsAt w a xs := by
  have h' := h
  obtain ⟨_, h2⟩ := h
  rcases h2 with ⟨rfl, h0⟩ | ⟨g, cap, cur, rfl, hg, hh, _⟩
  · exact ⟨none, 0, by rw [h0], fun i hi => by omega⟩
  · refine ⟨some ⟨g, 0, none⟩, cap, rfl, fun i hi => ⟨g, 0, rfl, lt_of_block hh, fun j u hj => ?_⟩⟩
    have hj10 : j < 10 := by
      rcases Nat.lt_or_ge j 10 with h | h
      · exact h
      · rw [List.getElem?_eq_none (by simpa [apv] using h)] at hj; cases hj
    rw [Nat.zero_add, h'.cellAt _ (by omega), apvs_get xs i j hi hj10]
    exact hj

theorem apv_cells (w : World) (s : ByteArray) : ∀ j u, (apv s)[j]? = some u → (w.alloc (.cells (apv s).toArray 33)).cell? ((⟨w.heap.size, 0, none⟩ : Addr).add j) = some u := by
  intro j u hj
  rw [show (⟨w.heap.size, 0, none⟩ : Addr).add j = ⟨w.heap.size, j, none⟩ by cases j <;> simp [Addr.add], cell_of_row _ _ _ _ _ _ (heap_alloc_new w _)]
  simpa using hj
theorem apv_one (s : ByteArray) : ∀ u ∈ apv s, u.oneCell' = true := by
  intro u hu
  simp [apv] at hu
  rcases hu with rfl | rfl | rfl | rfl | rfl | rfl <;> rfl

/-- Those that are not by id. -/
def others (ss : List ByteArray) (id : ByteArray) : List ByteArray := ss.filter fun s => !(s.toList == id.toList)
theorem others_no (ss : List ByteArray) (id : ByteArray) : inBy (others ss id) id = false := by
  unfold inBy others
  simp [List.any_eq_false]
theorem others_le (ss : List ByteArray) (id : ByteArray) : (others ss id).length ≤ ss.length := List.length_filter_le _ _
theorem others_lt (ss : List ByteArray) (id : ByteArray) : inBy ss id = decide ((others ss id).length < ss.length) := by
  induction ss with
  | nil => rfl
  | cons s ss ih =>
    have hle := others_le ss id
    unfold inBy at ih ⊢
    unfold others at ih hle ⊢
    rw [List.any_cons, List.filter_cons]
    cases h : s.toList == id.toList
    · simp only [Bool.not_false, if_true, List.length_cons, Bool.false_or, ih]
      simp
    · simp
      omega
theorem others_snoc (ss : List ByteArray) (id : ByteArray) (k : Nat) (h : k < ss.length) : others (ss.take (k + 1)) id = others (ss.take k) id ++ (if ((ss.getD k ByteArray.empty).toList == id.toList) = true then [] else [ss.getD k ByteArray.empty]) := by
  unfold others
  rw [List.take_succ_eq_append_getElem h, List.filter_append]
  have : ss.getD k ByteArray.empty = ss[k] := by simp [List.getD, List.getElem?_eq_getElem h]
  rw [this]
  cases hq : ss[k].toList == id.toList <;> simp [hq]
theorem take_snocD (ss : List ByteArray) (k : Nat) (h : k < ss.length) : ss.take (k + 1) = ss.take k ++ [ss.getD k ByteArray.empty] := by
  rw [List.take_succ_eq_append_getElem h]
  simp [List.getD, List.getElem?_eq_getElem h]
theorem inBy_mid (xs ys : List ByteArray) (id : ByteArray) : inBy (xs ++ id :: ys) id = true := by
  unfold inBy
  simp

/-- The list with one more, by id, put in at k, as far as j. -/
def mid (ss : List ByteArray) (id : ByteArray) (k j : Nat) : List ByteArray := ss.take k ++ id :: (ss.drop k).take (j - k)
theorem mid_start (ss : List ByteArray) (id : ByteArray) (k : Nat) : mid ss id k k = ss.take k ++ [id] := by simp [mid]
theorem mid_length (ss : List ByteArray) (id : ByteArray) (k j : Nat) (h : k ≤ j) (hj : j ≤ ss.length) : (mid ss id k j).length = j + 1 := by
  simp [mid]; omega
theorem mid_snoc (ss : List ByteArray) (id : ByteArray) (k j : Nat) (h : k ≤ j) (hj : j < ss.length) : mid ss id k (j + 1) = mid ss id k j ++ [ss.getD j ByteArray.empty] := by
  unfold mid
  rw [show j + 1 - k = (j - k) + 1 by omega, take_snocD (ss.drop k) (j - k) (by simp; omega)]
  simp [show k + (j - k) = j by omega]
theorem mid_in (ss : List ByteArray) (id : ByteArray) (k j : Nat) : inBy (mid ss id k j) id = true := inBy_mid _ _ _

theorem own_at' {w : World} {base g n cap : Nat} {xs : List ByteArray} (hn : xs.length = n) (h : w.ownsRow base 33 10 (.slice (some ⟨g, 0, none⟩) n cap) n (apvs xs)) : ApsAt w (some ⟨g, 0, none⟩) xs := by
  subst hn
  obtain ⟨a, c, e, h'⟩ := own_at h
  cases e
  exact h'
theorem approved8n (a : Option Addr) (ss : List ByteArray) (n cap : Nat) (id : ByteArray) (w : World) (hn : ss.length = n) (hs : ApsAt w a ss) (hl : n ≤ 2097152) :
    Calls Try.prog 8 #[.slice a n cap, .string id] w fun e w' => e = .returned (.bool (inBy ss id)) ∧ Below w.heap.size w w' := by
  subst hn
  exact approved8 a ss cap id w hs hl

set_option maxRecDepth 100000 in
set_option maxHeartbeats 4000000 in
theorem insert_any (a : Option Addr) (ss : List ByteArray) (cap : Nat) (id : ByteArray) (k : Nat) (w : World) (ha : a = none → ss = [] ∧ cap = 0) (hs : StrsAt w a ss) (hl : ss.length ≤ maxLen) (hid : id.size ≤ maxLen) (hk : k ≤ ss.length) :
    Calls Try.prog 3 #[.slice a ss.length cap, .string id, .int .i64 k] w fun e w' => e = .returned (.bool true) ∧ Below w.heap.size w w' := by
  obtain ⟨i0, hi, hz0, hz1, hz2⟩ := info_parts Try.info33
  go_enter Try.func3, Try.ntmps3
  go_wp2_with fail
  refine (bytes6_any a ss cap id k _ hs hl hid).mono ?_
  rintro e w0 ⟨b, rfl, rfl, hbd⟩
  cases b
  · go_wp2
    go_ret
    exact ⟨rfl, Below.refl _ _⟩
  have hn : ss.length ≤ 1048576 := hbd rfl
  clear hbd hl
  go_wp2_with fail
  refine (fit_any a ss cap id _ hs hn hid).mono ?_
  rintro e w1 ⟨b, rfl, hb1⟩
  cases b
  · go_wp2
    go_ret
    exact ⟨rfl, hb1⟩
  have hk0 : ¬ (k : Int) < 0 := by omega
  have hk1 : ¬ (ss.length : Int) < (k : Int) := by omega
  have hkd0 : decide ((k : Int) < 0) = false := by simp
  have hkd1 : decide ((ss.length : Int) < (k : Int)) = false := by simp; omega
  go_wp2_with (refine wpList_make_own _ rfl _ _ 25 rfl w1.heap.size 33 i0 _ 10 Try.underlying25 hi hz0 hz1 .i64 .i64 _ (ss.length + 1) rfl rfl (by omega) (by rw [hz2]; omega) (by unfold maxLen; omega) (Nat.le_refl _) ?_; intro w2 hown hgr)
  have hb2 : Below w0.heap.size w0 w2 := hb1.grown hgr hb1.size (fun k h => by cases h)
  have hG : w0.heap.size ≤ w1.heap.size := hb1.size
  have hG2 : w1.heap.size < w2.heap.size := by
    obtain ⟨_, h2⟩ := hown
    rcases h2 with ⟨h2, _⟩ | ⟨g', cap, cur, hv, hg, hh, _⟩
    · cases h2
    · cases hv; exact lt_of_block hh
  clear hgr hkd0 hkd1
  go_loopw [7, 8] (fun v i wr => ∃ j : Nat, j ≤ k ∧ i = .int .i64 j ∧ v = .slice (some ⟨w1.heap.size, 0, none⟩) j (ss.length + 1) ∧ wr.ownsRow w1.heap.size 33 10 (.slice (some ⟨w1.heap.size, 0, none⟩) j (ss.length + 1)) j (apvs (ss.take j)) ∧ Below w0.heap.size w0 wr ∧ w1.heap.size ≤ wr.heap.size) (fun _ i _ => k - (intOf i).toNat)
  case atStart => exact ⟨0, Nat.zero_le _, rfl, rfl, hown, hb2, Nat.le_of_lt hG2⟩
  case round =>
    obtain ⟨j, hj, rfl, rfl, hown, hbr, hGr⟩ := hrel
    by_cases hlt : j < k
    · obtain ⟨b, off, rfl, hb, hc, hz⟩ := (hs.below hbr (Nat.le_refl _)) j (by omega)
      have HT : Hid (ss.take (j + 1) = ss.take j ++ [ss.getD j ByteArray.empty]) := take_snocD ss j (by omega)
      generalize ss.getD j ByteArray.empty = s at *
      go_wp2_with (at_builtin; refine wpList_append_fits _ rfl _ _ 25 rfl w1.heap.size 33 i0 10 Try.underlying25 hi hz1 w1.heap.size j (ss.length + 1) _ rfl (hown.alloc _) ⟨wr.heap.size, 0, none⟩ 1 1 (apv s) rfl rfl (apv_cells wr s) (apv_one s) (by omega) ?_; intro w3 hown3 hgr3)
      have R1 : w3.ownsRow w1.heap.size 33 10 (.slice (some ⟨w1.heap.size, 0, none⟩) (j + 1) (ss.length + 1)) (j + 1) (apvs (ss.take (j + 1))) := by
        rw [HT.out, ← apvs_snoc]; exact hown3
      have R2 : Below w0.heap.size w0 w3 := (hbr.alloc hbr.size _).grown hgr3 (by simp; omega) (fun k h => by cases h; exact hG)
      have R3 : w1.heap.size ≤ w3.heap.size := by have := hgr3.size; simp at this; omega
      go_roundw
      case rel => exact ⟨j + 1, by omega, by go_num, rfl, R1, R2, R3⟩
      case measure => simp [intOf]; omega
    · obtain rfl : j = k := by omega
      clear hb2 hG2
      go_wp2_with (at_builtin; refine wpList_append_fits _ rfl _ _ 25 rfl w1.heap.size 33 i0 10 Try.underlying25 hi hz1 w1.heap.size j (ss.length + 1) _ rfl (hown.alloc _) ⟨wr.heap.size, 0, none⟩ 1 1 (apv id) rfl rfl (apv_cells wr id) (apv_one id) (by omega) ?_; intro w3 hown3 hgr3)
      have R1 : w3.ownsRow w1.heap.size 33 10 (.slice (some ⟨w1.heap.size, 0, none⟩) (j + 1) (ss.length + 1)) (j + 1) (apvs (mid ss id j j)) := by
        rw [mid_start, ← apvs_snoc]; exact hown3
      have R2 : Below w0.heap.size w0 w3 := (hbr.alloc hbr.size _).grown hgr3 (by simp; omega) (fun k h => by cases h; exact hG)
      have R3 : w1.heap.size ≤ w3.heap.size := by have := hgr3.size; simp at this; omega
      clear hown3 hgr3 hbr hGr
      go_loopw [7, 9] (fun v i wr => ∃ m : Nat, j ≤ m ∧ m ≤ ss.length ∧ i = .int .i64 m ∧ v = .slice (some ⟨w1.heap.size, 0, none⟩) (m + 1) (ss.length + 1) ∧ wr.ownsRow w1.heap.size 33 10 (.slice (some ⟨w1.heap.size, 0, none⟩) (m + 1) (ss.length + 1)) (m + 1) (apvs (mid ss id j m)) ∧ Below w0.heap.size w0 wr ∧ w1.heap.size ≤ wr.heap.size) (fun _ i _ => ss.length - (intOf i).toNat)
      case atStart => exact ⟨j, Nat.le_refl _, by omega, rfl, rfl, R1, R2, R3⟩
      case round =>
        obtain ⟨m, hjm, hm, rfl, rfl, hown, hbr, hGr⟩ := hrel
        by_cases hlt : m < ss.length
        · obtain ⟨b, off, rfl, hb, hc, hz⟩ := (hs.below hbr (Nat.le_refl _)) m (by omega)
          have HT : Hid (mid ss id j (m + 1) = mid ss id j m ++ [ss.getD m ByteArray.empty]) := mid_snoc ss id j m hjm hlt
          generalize ss.getD m ByteArray.empty = s at *
          go_wp2_with (at_builtin; refine wpList_append_fits _ rfl _ _ 25 rfl w1.heap.size 33 i0 10 Try.underlying25 hi hz1 w1.heap.size (m + 1) (ss.length + 1) _ rfl (hown.alloc _) ⟨wr.heap.size, 0, none⟩ 1 1 (apv s) rfl rfl (apv_cells wr s) (apv_one s) (by omega) ?_; intro w3 hown3 hgr3)
          have R1 : w3.ownsRow w1.heap.size 33 10 (.slice (some ⟨w1.heap.size, 0, none⟩) (m + 1 + 1) (ss.length + 1)) (m + 1 + 1) (apvs (mid ss id j (m + 1))) := by
            rw [HT.out, ← apvs_snoc]; exact hown3
          have R2 : Below w0.heap.size w0 w3 := (hbr.alloc hbr.size _).grown hgr3 (by simp; omega) (fun k h => by cases h; exact hG)
          have R3 : w1.heap.size ≤ w3.heap.size := by have := hgr3.size; simp at this; omega
          go_roundw
          case rel => exact ⟨m + 1, by omega, by omega, by go_num, rfl, R1, R2, R3⟩
          case measure => simp [intOf]; omega
        · obtain rfl : m = ss.length := by omega
          clear R1 R2 R3
          have hins := own_at' (mid_length ss id j ss.length hjm (Nat.le_refl _)) hown
          clear hown
          obtain ⟨w5, hw5⟩ : ∃ x, x = wr := ⟨wr, rfl⟩
          subst hw5
          go_wp2
          go_loopw [10, 11] (fun v i wr => ∃ m : Nat, m ≤ ss.length ∧ i = .int .i64 m ∧ wr.ownsRow w5.heap.size 33 10 v (others (ss.take m) id).length (apvs (others (ss.take m) id)) ∧ Below w5.heap.size w5 wr) (fun _ i _ => ss.length - (intOf i).toNat)
          case atStart => exact ⟨0, Nat.zero_le _, rfl, World.ownsRow_nil _ _ _ _, Below.refl _ _⟩
          case round =>
            obtain ⟨m, hm, rfl, hown, hbr2⟩ := hrel
            have hbr02 : Below w0.heap.size w0 wr := hbr.trans (hbr2.mono hbr.size)
            by_cases hlt : m < ss.length
            · obtain ⟨b, off, rfl, hb, hc, hz⟩ := (hs.below hbr02 (Nat.le_refl _)) m (by omega)
              have HT : Hid (others (ss.take (m + 1)) id = others (ss.take m) id ++ (if ((ss.getD m ByteArray.empty).toList == id.toList) = true then [] else [ss.getD m ByteArray.empty])) := others_snoc ss id m hlt
              have hle := others_le (ss.take m) id
              have hle2 : (ss.take m).length ≤ m := List.length_take_le _ _
              generalize ss.getD m ByteArray.empty = s at *
              cases hq : s.toList == id.toList
              · have HQ : Hid ((s.toList == id.toList) = false) := hq
                go_wp2_with (at_builtin; refine wpList_append_own _ rfl _ _ 25 rfl w5.heap.size 33 i0 _ 10 128 Try.underlying25 hi hz0 hz1 hz2 rfl (by decide) _ _ _ rfl (hown.alloc _) ⟨wr.heap.size, 0, none⟩ 1 1 (apv s) rfl rfl (apv_cells wr s) (apv_one s) (by unfold maxLen; omega) (by omega) (by have := hbr2.size; simp; omega) ?_; intro v' w3 hown3 hgr3 _)
                have R1 : w3.ownsRow w5.heap.size 33 10 v' (others (ss.take (m + 1)) id).length (apvs (others (ss.take (m + 1)) id)) := by
                  have e := HT.out
                  rw [HQ.out] at e
                  rw [e, show (if (false = true) then ([] : List ByteArray) else [s]) = [s] from rfl, ← apvs_snoc, List.length_append]
                  exact hown3
                have R2 : Below w5.heap.size w5 w3 := (hbr2.alloc hbr2.size _).grown hgr3 (by have := hbr2.size; simp; omega) (fun k h => (hown.lt k h).1)
                go_roundw
                case rel => exact ⟨m + 1, by omega, by go_num, R1, R2⟩
                case measure => simp [intOf]; omega
              · have HQ : Hid ((s.toList == id.toList) = true) := hq
                have R1 : others (ss.take (m + 1)) id = others (ss.take m) id := by
                  have e := HT.out
                  rw [HQ.out, if_pos rfl, List.append_nil] at e
                  exact e
                have R2 := hown
                rw [← R1] at R2
                clear R1
                go_wp2
                go_roundw
                case rel => exact ⟨m + 1, by omega, by go_num, R2, hbr2⟩
                case measure => simp [intOf]; omega
            · obtain rfl : m = ss.length := by omega
              rw [List.take_length] at hown
              obtain ⟨ar, cr, hv, hrest⟩ := own_at hown
              have hins2 := hins.below hbr2 (Nat.le_refl _)
              have hml := mid_length ss id j ss.length hjm (Nat.le_refl _)
              have hol := others_le ss id
              have HA : Hid (inBy (mid ss id j ss.length) id = true) := mid_in _ _ _ _
              have HB : Hid (inBy (others ss id) id = false) := others_no _ _
              have HC : Hid (inBy ss id = decide ((others ss id).length < ss.length)) := others_lt _ _
              clear hown hins hi hz0 hz1 hz2
              generalize mid ss id j ss.length = M at *
              generalize others ss id = O at *
              have HM : Hid (M.length = ss.length + 1) := hml
              clear hml
              rw [hv]
              clear hv
              go_wp2_with fail
              refine (approved8n (some ⟨w1.heap.size, 0, none⟩) M (ss.length + 1) (ss.length + 1) id wr HM.out hins2 (by omega)).mono ?_
              rintro e w6 ⟨rfl, hb6⟩
              have hrest6 := hrest.below hb6 (Nat.le_refl _)
              rw [HA.out]
              go_wp2_with fail
              refine (approved8n ar O O.length cr id w6 rfl hrest6 (by omega)).mono ?_
              rintro e w7 ⟨rfl, hb7⟩
              rw [HB.out]
              have hb07 : Below w0.heap.size w0 w7 := (hbr02.trans (hb6.mono hbr02.size)).trans (hb7.mono (Nat.le_trans hbr02.size hb6.size))
              go_wp2_with fail
              refine (of_any a ss cap w7 ha (hs.below hb07 (Nat.le_refl _)) hn).mono ?_
              rintro e w8 ⟨aa, ca, rfl, haa, hb8⟩
              go_wp2_with fail
              refine (approved8n aa ss ss.length ca id w8 rfl haa (by omega)).mono ?_
              rintro e w9 ⟨rfl, hb9⟩
              rw [HC.out]
              have hb09 : Below w0.heap.size w0 w9 := (hb07.trans (hb8.mono hb07.size)).trans (hb9.mono (Nat.le_trans hb07.size hb8.size))
              go_wp2
              go_ret
              exact ⟨rfl, hb09⟩

set_option maxRecDepth 100000 in
set_option maxHeartbeats 1000000 in
theorem insert_out (a : Option Addr) (ss : List ByteArray) (cap : Nat) (id : ByteArray) (k : Int) (w : World) (hs : StrsAt w a ss) (hl : ss.length ≤ maxLen) (hid : id.size ≤ maxLen) (hk : k < 0 ∨ (ss.length : Int) < k) :
    Calls Try.prog 3 #[.slice a ss.length cap, .string id, .int .i64 k] w fun e w' => e = .returned (.bool true) ∧ Below w.heap.size w w' := by
  go_enter Try.func3, Try.ntmps3
  go_wp2_with fail
  refine (bytes6_any a ss cap id k _ hs hl hid).mono ?_
  rintro e w0 ⟨b, rfl, rfl, hbd⟩
  cases b
  · go_wp2
    go_ret
    exact ⟨rfl, Below.refl _ _⟩
  have hn : ss.length ≤ 1048576 := hbd rfl
  clear hbd hl
  go_wp2_with fail
  refine (fit_any a ss cap id _ hs hn hid).mono ?_
  rintro e w1 ⟨b, rfl, hb1⟩
  cases b
  · go_wp2
    go_ret
    exact ⟨rfl, hb1⟩
  rcases hk with hk | hk
  · go_wp2
    go_ret
    exact ⟨rfl, hb1⟩
  · have hk2 : ¬ k < 0 := by omega
    go_wp2
    go_ret
    exact ⟨rfl, hb1⟩
end Go.Proofs.Qxb6616144a
