import Derived.Test.Qxb6616236aBase
namespace Go.Proofs.Qxb6616236a
open Go.RowKit

def BPost (w : World) (e : Ending) (w' : World) : Prop := ∃ b : Bool, e = .returned (.bool b) ∧ w' = w

set_option maxHeartbeats 2000000 in
theorem bytes5 (a0 : Int) (a1 a2 : ByteArray) (a3 : Int) (a4 a5 : ByteArray) (w : World) (w1 : a1.size ≤ maxLen) (w2 : a2.size ≤ maxLen) (w4 : a4.size ≤ maxLen) (w5 : a5.size ≤ maxLen) :
    Calls Try.prog 5 #[.int .i64 a0, .string a1, .string a2, .int .i64 a3, .string a4, .string a5] w (BPost w) := by
  unfold maxLen at w1 w2 w4 w5
  by_cases c1 : 1048576 < a1.size
  · go_enter Try.func5, Try.ntmps5
    go_wp2
    go_ret
    exact ⟨_, rfl, rfl⟩
  by_cases c2 : 1048576 < a2.size
  · go_enter Try.func5, Try.ntmps5
    go_wp2
    go_ret
    exact ⟨_, rfl, rfl⟩
  by_cases d2 : 1048576 < a1.size + a2.size
  · go_enter Try.func5, Try.ntmps5
    go_wp2
    go_ret
    exact ⟨_, rfl, rfl⟩
  by_cases c3 : 1048576 < a4.size
  · go_enter Try.func5, Try.ntmps5
    go_wp2
    go_ret
    exact ⟨_, rfl, rfl⟩
  by_cases d3 : 1048576 < a1.size + a2.size + a4.size
  · go_enter Try.func5, Try.ntmps5
    go_wp2
    go_ret
    exact ⟨_, rfl, rfl⟩
  by_cases c4 : 1048576 < a5.size
  · go_enter Try.func5, Try.ntmps5
    go_wp2
    go_ret
    exact ⟨_, rfl, rfl⟩
  by_cases d4 : 1048576 < a1.size + a2.size + a4.size + a5.size
  · go_enter Try.func5, Try.ntmps5
    go_wp2
    go_ret
    exact ⟨_, rfl, rfl⟩
  go_enter Try.func5, Try.ntmps5
  go_wp2
  go_ret
  exact ⟨_, rfl, rfl⟩

/-- The plain law: what the Go text asks of the three answers. -/
theorem orank_ok (a : Int) (p : ByteArray) (b : Int) (q : ByteArray) :
    (orank a p b q && orank b q a p) = false ∧ ((orank a p b q || orank b q a p) == (decide (a = b) && (p.toList.isEmpty == q.toList.isEmpty))) = false ∧ (b < a → orank a p b q = true) ∧ (a < b → orank b q a p = true) ∧ orank a p a p = false := by
  unfold orank noName
  by_cases h1 : a = b
  · subst h1
    cases p.toList.isEmpty <;> cases q.toList.isEmpty <;> simp
  · have h2 : ¬ b = a := fun h => h1 h.symm
    rcases Int.lt_or_gt_of_ne h1 with h | h
    · have h3 : ¬ b < a := by omega
      simp [h1, h2, h, h3]
    · have h3 : ¬ a < b := by omega
      simp [h1, h2, h, h3]

theorem dcells {wa WA wx : World} {cs : Array Value} (hA : Hid (wa.alloc (.cells cs 25) = WA)) (h : Below WA.heap.size WA wx) (j : Nat) (u : Value) (hj : cs[j]? = some u) : wx.cell? ⟨wa.heap.size, j, none⟩ = some u := by
  have hA := hA.out
  subst hA
  rw [h.cell (p := ⟨wa.heap.size, j, none⟩) (by simp), cell_of_row _ _ _ _ _ _ (heap_alloc_new wa _)]
  exact hj
theorem grewBy {wa WA : World} {cs : Array Value} {B : Nat} {w : World} (hA : Hid (wa.alloc (.cells cs 25) = WA)) (h : Below B w wa) (hB : B ≤ wa.heap.size) : Below B w WA := by
  have hA := hA.out
  subst hA
  exact h.alloc hB _

set_option maxRecDepth 100000 in
set_option maxHeartbeats 4000000 in
theorem order_any (a0 : Int) (a1 a2 : ByteArray) (a3 : Int) (a4 a5 : ByteArray) (w : World) (w1 : a1.size ≤ maxLen) (w2 : a2.size ≤ maxLen) (w4 : a4.size ≤ maxLen) (w5 : a5.size ≤ maxLen) :
    Calls Try.prog 3 #[.int .i64 a0, .string a1, .string a2, .int .i64 a3, .string a4, .string a5] w fun e w' => e = .returned (.bool true) ∧ Below w.heap.size w w' := by
  have K5 := bytes5 a0 a1 a2 a3 a4 a5 w w1 w2 w4 w5
  unfold maxLen at w1 w2 w4 w5
  by_cases c : 262144 < a1.size ∨ 262144 < a2.size ∨ 262144 < a4.size ∨ 262144 < a5.size
  · go_enter Try.func3, Try.ntmps3
    go_wp2_with fail
    refine K5.mono ?_
    rintro e w' ⟨b, rfl, rfl⟩
    cases b
    · go_wp2
      go_ret
      exact ⟨rfl, Below.refl _ _⟩
    · by_cases c1 : 262144 < a1.size
      · go_wp2
        go_ret
        exact ⟨rfl, Below.refl _ _⟩
      by_cases c2 : 262144 < a2.size
      · go_wp2
        go_ret
        exact ⟨rfl, Below.refl _ _⟩
      by_cases c3 : 262144 < a4.size
      · go_wp2
        go_ret
        exact ⟨rfl, Below.refl _ _⟩
      have c4 : 262144 < a5.size := by omega
      go_wp2
      go_ret
      exact ⟨rfl, Below.refl _ _⟩
  have c1 : a1.size ≤ 262144 := by omega
  have c2 : a2.size ≤ 262144 := by omega
  have c3 : a4.size ≤ 262144 := by omega
  have c4 : a5.size ≤ 262144 := by omega
  clear c
  go_enter Try.func3, Try.ntmps3
  go_wp2_with fail
  refine K5.mono ?_
  rintro e w' ⟨b, rfl, rfl⟩
  cases b
  · go_wp2
    go_ret
    exact ⟨rfl, Below.refl _ _⟩
  go_wp2_with fail
  refine (mk_any a0 a1 a2 _).mono ?_
  rintro e wa ⟨rfl, ba⟩
  have M2 := fun w => mk_any a3 a4 a5 w
  have M3 := fun w => mk_any a0 a1 a5 w
  have M4 := fun w => mk_any a3 a4 a2 w
  have R1 := fun w => outranks7 a0 a1 a2 a3 a4 a5 w
  have R2 := fun w => outranks7 a3 a4 a5 a0 a1 a2 w
  have R3 := fun w => outranks7 a0 a1 a5 a3 a4 a2 w
  have R4 := fun w => outranks7 a0 a1 a2 a0 a1 a2 w
  obtain ⟨X, hX⟩ : ∃ X, Hid (X = orank a0 a1 a3 a4) := ⟨_, rfl⟩
  obtain ⟨Y, hY⟩ : ∃ Y, Hid (Y = orank a3 a4 a0 a1) := ⟨_, rfl⟩
  have hZ : orank a0 a1 a0 a1 = false := (orank_ok a0 a1 a0 a1).2.2.2.2
  rw [hZ] at R4
  rw [← hX.out] at R1 R3
  rw [← hY.out] at R2
  unfold dv at R1 R2 R3 R4 ⊢
  go_wp2_with fail
  obtain ⟨WA, hA⟩ : ∃ WA, Hid (wa.alloc (.cells #[.int .i64 a0, .string a1, .string a2] 25) = WA) := ⟨_, rfl⟩
  rw [hA.out]
  refine (M2 _).mono ?_
  rintro e wb ⟨rfl, bb⟩
  unfold dv
  have p0 := dcells hA bb 0 _ rfl
  have p1 := dcells hA bb 1 _ rfl
  have p2 := dcells hA bb 2 _ rfl
  have hlA : wa.heap.size < WA.heap.size := by rw [← hA.out]; simp
  have l1 : wa.heap.size < wb.heap.size := Nat.lt_of_lt_of_le hlA bb.size
  have l1' : wa.heap.size ≠ wb.heap.size := Nat.ne_of_lt l1
  go_wp2_with fail
  obtain ⟨WB, hB⟩ : ∃ WB, Hid (wb.alloc (.cells #[.int .i64 a3, .string a4, .string a5] 25) = WB) := ⟨_, rfl⟩
  rw [hB.out]
  refine (R1 _).mono ?_
  rintro e wc ⟨rfl, bc⟩
  have lAB : Below WA.heap.size WA WB := grewBy hB bb bb.size
  have lAc := lAB.trans (bc.mono lAB.size)
  clear p0 p1 p2
  have p0 := dcells hA lAc 0 _ rfl
  have p1 := dcells hA lAc 1 _ rfl
  have p2 := dcells hA lAc 2 _ rfl
  have q0 := dcells hB bc 0 _ rfl
  have q1 := dcells hB bc 1 _ rfl
  have q2 := dcells hB bc 2 _ rfl
  go_wp2_with fail
  refine (R2 _).mono ?_
  rintro e wd ⟨rfl, bd⟩
  clear p0 p1 p2 q0 q1 q2
  go_wp2_with fail
  refine (M3 _).mono ?_
  rintro e we ⟨rfl, be⟩
  unfold dv
  go_wp2_with fail
  obtain ⟨WE, hE⟩ : ∃ WE, Hid (we.alloc (.cells #[.int .i64 a0, .string a1, .string a5] 25) = WE) := ⟨_, rfl⟩
  rw [hE.out]
  refine (M4 _).mono ?_
  rintro e wf ⟨rfl, bf⟩
  unfold dv
  have p0 := dcells hE bf 0 _ rfl
  have p1 := dcells hE bf 1 _ rfl
  have p2 := dcells hE bf 2 _ rfl
  have hlE : we.heap.size < WE.heap.size := by rw [← hE.out]; simp
  have l2 : we.heap.size < wf.heap.size := Nat.lt_of_lt_of_le hlE bf.size
  have l2' : we.heap.size ≠ wf.heap.size := Nat.ne_of_lt l2
  go_wp2_with fail
  obtain ⟨WF, hF⟩ : ∃ WF, Hid (wf.alloc (.cells #[.int .i64 a3, .string a4, .string a2] 25) = WF) := ⟨_, rfl⟩
  rw [hF.out]
  refine (R3 _).mono ?_
  rintro e wg ⟨rfl, bg⟩
  clear p0 p1 p2
  have lAd := lAc.trans (bd.mono lAc.size)
  have lAe := lAd.trans (be.mono lAd.size)
  have lAE := grewBy hE lAe lAe.size
  have lAf := lAE.trans (bf.mono lAE.size)
  have lAF := grewBy hF lAf lAf.size
  have lAg := lAF.trans (bg.mono lAF.size)
  have p0 := dcells hA lAg 0 _ rfl
  have p1 := dcells hA lAg 1 _ rfl
  have p2 := dcells hA lAg 2 _ rfl
  have lWA := grewBy hA ba ba.size
  have fin : ∀ {wh : World}, Below wg.heap.size wg wh → Below w'.heap.size w' wh := fun h => lWA.trans ((lAg.trans (h.mono lAg.size)).mono lWA.size)
  clear M2 M3 M4 R1 R2 R3 bb bc bd be bf bg lAB lAc lAd lAe lAE lAf lAF K5
  have hX := hX.out
  have hY := hY.out
  unfold orank noName at hX hY
  by_cases h : a0 < a3
  · have h2 : ¬ a3 < a0 := by omega
    have h3 : ¬ a0 = a3 := by omega
    have h4 : ¬ a3 = a0 := by omega
    simp only [h, h2, h3, h4, decide_true, decide_false, Bool.false_and, Bool.false_or, Bool.true_or] at hX hY
    subst hX hY
    go_wp2_with fail
    refine (R4 _).mono ?_
    rintro e wh ⟨rfl, bh⟩
    go_wp2
    go_ret
    exact ⟨rfl, fin bh⟩
  by_cases h' : a3 < a0
  · have h2 : ¬ a0 < a3 := by omega
    have h3 : ¬ a0 = a3 := by omega
    have h4 : ¬ a3 = a0 := by omega
    simp only [h', h2, h3, h4, decide_true, decide_false, Bool.false_and, Bool.false_or, Bool.true_or] at hX hY
    subst hX hY
    go_wp2_with fail
    refine (R4 _).mono ?_
    rintro e wh ⟨rfl, bh⟩
    go_wp2
    go_ret
    exact ⟨rfl, fin bh⟩
  obtain rfl : a0 = a3 := by omega
  by_cases e1 : a1.toList = []
  · by_cases e4 : a4.toList = []
    · simp [e1, e4] at hX hY
      subst hX hY
      go_wp2_with fail
      refine (R4 _).mono ?_
      rintro e wh ⟨rfl, bh⟩
      go_wp2
      go_ret
      exact ⟨rfl, fin bh⟩
    · have e4' : a4.toList.isEmpty = false := by simpa using e4
      simp [e1, e4'] at hX hY
      subst hX hY
      go_wp2_with fail
      refine (R4 _).mono ?_
      rintro e wh ⟨rfl, bh⟩
      go_wp2
      go_ret
      exact ⟨rfl, fin bh⟩
  · have e1' : a1.toList.isEmpty = false := by simpa using e1
    by_cases e4 : a4.toList = []
    · simp [e1', e4] at hX hY
      subst hX hY
      go_wp2_with fail
      refine (R4 _).mono ?_
      rintro e wh ⟨rfl, bh⟩
      go_wp2
      go_ret
      exact ⟨rfl, fin bh⟩
    · have e4' : a4.toList.isEmpty = false := by simpa using e4
      simp [e1', e4'] at hX hY
      subst hX hY
      go_wp2_with fail
      refine (R4 _).mono ?_
      rintro e wh ⟨rfl, bh⟩
      go_wp2
      go_ret
      exact ⟨rfl, fin bh⟩
end Go.Proofs.Qxb6616236a
