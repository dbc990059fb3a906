import Derived.Test.Qxb6616144aIns
namespace Go.Proofs.Qxb6616144a
open Go.RowKit

set_option maxHeartbeats 1000000 in
/-- zzBytes of the second law: it answers; a yes bounds the slice's length. -/
theorem bytes10_any (a : Option Addr) (ss : List ByteArray) (cap : Nat) (id : ByteArray) (k j : Int) (w : World) (hs : StrsAt w a ss) (hl : ss.length ≤ maxLen) (hid : id.size ≤ maxLen) :
    Calls Try.prog 10 #[.slice a ss.length cap, .string id, .int .i64 k, .int .i64 j] w (BPost ss.length w) := by
  unfold maxLen at hid hl
  by_cases hbig : ss.length ≤ 1048576
  · have hbd : decide ((1048576 : Int) < (ss.length : Int)) = false := by simp; omega
    go_enter Try.func10, Try.ntmps10
    go_wp2
    go_loop [9, 10] (fun t i => ∃ (k : Nat) (n : Int), k ≤ ss.length ∧ i = .int .i64 k ∧ t = .int .i64 n ∧ 0 ≤ n ∧ n ≤ 1048576) (fun _ i => ss.length - (intOf i).toNat)
    case atStart => exact ⟨0, ss.length, Nat.zero_le _, rfl, rfl, by omega, by omega⟩
    case round =>
      obtain ⟨k, n, hk, rfl, rfl, hn0, hn1⟩ := hrel
      by_cases hlt : k < ss.length
      · obtain ⟨b, off, rfl, hb, hc, hz⟩ := hs k hlt
        generalize ss.getD k ByteArray.empty = s at *
        unfold maxLen at hz
        by_cases h1 : (1048576 : Int) < (s.size : Int)
        · go_wp2
          go_ret
          exact ⟨_, rfl, rfl, fun _ => hbig⟩
        · by_cases h2 : 1048576 < n + (s.size : Int)
          · go_wp2
            go_ret
            exact ⟨_, rfl, rfl, fun _ => hbig⟩
          · go_wp2
            go_round
            case rel => exact ⟨k + 1, _, by omega, by go_num, rfl, by omega, by omega⟩
            case measure => simp [intOf]; omega
      · go_wp2
        all_goals
          go_ret
          exact ⟨_, rfl, rfl, fun _ => hbig⟩
  · have h1 : (1048576 : Int) < (ss.length : Int) := by omega
    go_enter Try.func10, Try.ntmps10
    go_wp2
    go_ret
    exact ⟨false, rfl, rfl, fun h => by cases h⟩

theorem StrsAt.take {w : World} {a : Option Addr} {ss : List ByteArray} (h : StrsAt w a ss) (k : Nat) : StrsAt w a (ss.take k) := by
  intro i hi
  rw [List.length_take] at hi
  obtain ⟨b, off, e, h1, h2, h3⟩ := h i (by omega)
  have hg : (ss.take k).getD i ByteArray.empty = ss.getD i ByteArray.empty := by
    simp only [List.getD, List.getElem?_take, show i < k by omega, if_true]
  exact ⟨b, off, e, h1, by rw [hg]; exact h2, by rw [hg]; exact h3⟩

theorem StrsAt.drop {w : World} {b off : Nat} {ss : List ByteArray} (h : StrsAt w (some ⟨b, off, none⟩) ss) (k : Nat) : StrsAt w (some ⟨b, off + k, none⟩) (ss.drop k) := by
  intro i hi
  rw [List.length_drop] at hi
  obtain ⟨b', off', e, h1, h2, h3⟩ := h (k + i) (by omega)
  cases e
  have hg : (ss.drop k).getD i ByteArray.empty = ss.getD (k + i) ByteArray.empty := by simp [List.getD]
  exact ⟨b, off + k, rfl, h1, by rw [hg, Nat.add_assoc]; exact h2, by rw [hg]; exact h3⟩

theorem StrsAt.nil (w : World) (a : Option Addr) : StrsAt w a [] := fun i hi => by simp at hi

theorem of_n (a : Option Addr) (ss : List ByteArray) (n cap : Nat) (w : World) (hn : ss.length = n) (ha : a = none → ss = [] ∧ cap = 0) (hs : StrsAt w a ss) (hl : n ≤ 1048576) :
    Calls Try.prog 9 #[.slice a n cap] w (OPost ss w) := by
  subst hn
  exact of_any a ss cap w ha hs hl

theorem inBy_cut (ss : List ByteArray) (id : ByteArray) (k : Nat) : inBy ss id = (inBy (ss.take k) id || inBy (ss.drop k) id) := by
  unfold inBy
  rw [← List.any_append, List.take_append_drop]
theorem inBy_self (ss : List ByteArray) (i : Nat) (h : i < ss.length) : inBy ss (ss.getD i ByteArray.empty) = true := by
  unfold inBy
  rw [List.any_eq_true]
  exact ⟨ss[i], List.getElem_mem h, by simp [List.getD, List.getElem?_eq_getElem h]⟩

set_option maxRecDepth 100000 in
set_option maxHeartbeats 2000000 in
theorem cut_some (b off : Nat) (ss : List ByteArray) (cap : Nat) (id : ByteArray) (k : Nat) (j : Int) (w : World) (hs : StrsAt w (some ⟨b, off, none⟩) ss) (hl : ss.length ≤ maxLen) (hcap : ss.length ≤ cap) (hcm : cap ≤ maxLen) (hid : id.size ≤ maxLen) (hk : k ≤ ss.length) :
    Calls Try.prog 4 #[.slice (some ⟨b, off, none⟩) ss.length cap, .string id, .int .i64 k, .int .i64 j] w fun e w' => e = .returned (.bool true) ∧ Below w.heap.size w w' := by
  go_enter Try.func4, Try.ntmps4
  go_wp2_with fail
  refine (bytes10_any _ ss cap id k j _ hs hl hid).mono ?_
  rintro e w0 ⟨b, rfl, rfl, hbd⟩
  cases b
  · go_wp2
    go_ret
    exact ⟨rfl, Below.refl _ _⟩
  have hn : ss.length ≤ 1048576 := hbd rfl
  clear hbd hl
  go_wp2_with fail
  refine (fit_any _ ss cap id _ hs hn hid).mono ?_
  rintro e w1 ⟨b, rfl, hb1⟩
  cases b
  · go_wp2
    go_ret
    exact ⟨rfl, hb1⟩
  have hk0 : ¬ (k : Int) < 0 := by omega
  have hk1 : ¬ (ss.length : Int) < (k : Int) := by omega
  unfold maxLen at hcm
  go_wp2_with fail
  refine (of_any _ ss cap w1 (fun h => by cases h) (hs.below hb1 (Nat.le_refl _)) hn).mono ?_
  rintro e w2 ⟨aa, ca, rfl, haa, hb2⟩
  have hb02 : Below w0.heap.size w0 w2 := hb1.trans (hb2.mono hb1.size)
  clear hb2 hb1
  go_wp2_with fail
  refine (approved8n aa ss ss.length ca id w2 rfl haa (by omega)).mono ?_
  rintro e w3 ⟨rfl, hb3⟩
  have haa3 := haa.below hb3 (Nat.le_refl _)
  have hb03 : Below w0.heap.size w0 w3 := hb02.trans (hb3.mono hb02.size)
  clear haa hb02 hb3
  generalize hX : inBy ss id = X at *
  have HX : Hid (inBy ss id = X) := hX
  clear hX
  go_wp2_with fail
  refine (of_n _ (ss.take k) k cap w3 (by rw [List.length_take]; omega) (fun h => by cases h) ((hs.below hb03 (Nat.le_refl _)).take k) (by omega)).mono ?_
  rintro e w4 ⟨al, cl, rfl, hal, hb4⟩
  have hlk : (ss.take k).length = k := by rw [List.length_take]; omega
  have haa4 := haa3.below hb4 (Nat.le_refl _)
  have hb04 : Below w0.heap.size w0 w4 := hb03.trans (hb4.mono hb03.size)
  clear haa3 hb03 hb4
  go_wp2_with fail
  refine (approved8n al (ss.take k) k cl id w4 hlk hal (by omega)).mono ?_
  rintro e w5 ⟨rfl, hb5⟩
  have haa5 := haa4.below hb5 (Nat.le_refl _)
  have hb05 : Below w0.heap.size w0 w5 := hb04.trans (hb5.mono hb04.size)
  clear haa4 hb04 hb5 hal
  generalize hY : inBy (ss.take k) id = Y at *
  have HY : Hid (inBy (ss.take k) id = Y) := hY
  clear hY
  have hld : (ss.drop k).length = ss.length - k := by rw [List.length_drop]
  have hs5 := hs.below hb05 (Nat.le_refl _)
  have hcap2 : k ≤ cap := by omega
  have HZ : Hid (inBy ss id = (inBy (ss.take k) id || inBy (ss.drop k) id)) := inBy_cut ss id k
  rcases Nat.lt_or_eq_of_le hcap2 with hkc | rfl
  · go_wp2_with fail
    refine (of_n (some ⟨b, off + k, none⟩) (ss.drop k) (ss.length - k) _ w5 hld (fun h => by cases h) (hs5.drop k) (by omega)).mono ?_
    rintro e w6 ⟨ar, cr, rfl, har, hb6⟩
    have haa6 := haa5.below hb6 (Nat.le_refl _)
    have hb06 : Below w0.heap.size w0 w6 := hb05.trans (hb6.mono hb05.size)
    clear haa5 hb05 hb6
    go_wp2_with fail
    refine (approved8n ar (ss.drop k) (ss.length - k) cr id w6 hld har (by omega)).mono ?_
    rintro e w7 ⟨rfl, hb7⟩
    have haa7 := haa6.below hb7 (Nat.le_refl _)
    have hb07 : Below w0.heap.size w0 w7 := hb06.trans (hb7.mono hb06.size)
    clear haa6 hb06 hb7 har
    have HW : Hid (X = (Y || inBy (ss.drop k) id)) := by
      have := HZ.out; rw [HX.out, HY.out] at this; exact this
    generalize inBy (ss.drop k) id = Z at *
    by_cases hj : 0 ≤ j ∧ j < ss.length
    · obtain ⟨hj0, hj1⟩ := hj
      obtain ⟨n, rfl⟩ := Int.eq_ofNat_of_zero_le hj0
      have hjd0 : decide ((0 : Int) ≤ (n : Int)) = true := by simp
      obtain ⟨b', off', e', h1, hcn, _⟩ := hs.below hb07 (Nat.le_refl _) n (by omega)
      cases e'
      have HJ : Hid (inBy ss (ss.getD n ByteArray.empty) = true) := inBy_self ss n (by omega)
      generalize ss.getD n ByteArray.empty = sn at *
      go_wp2_with fail
      refine (approved8n aa ss ss.length ca sn w7 rfl haa7 (by omega)).mono ?_
      rintro e w8 ⟨rfl, hb8⟩
      have hb08 : Below w0.heap.size w0 w8 := hb07.trans (hb8.mono hb07.size)
      rw [HJ.out]
      rw [HW.out]
      cases Y <;> cases Z <;> (go_wp2; go_ret; exact ⟨rfl, hb08⟩)
    · have hjn : j < 0 ∨ (0 ≤ j ∧ (ss.length : Int) ≤ j) := by omega
      rw [HW.out]
      rcases hjn with hj0 | ⟨hj0, hj1⟩
      · cases Y <;> cases Z <;> (go_wp2; go_ret; exact ⟨rfl, hb07⟩)
      · cases Y <;> cases Z <;> (go_wp2; go_ret; exact ⟨rfl, hb07⟩)
  · have HZ2 : Hid (inBy ss id = (inBy (ss.take k) id || inBy [] id)) := by
      have h := HZ.out
      rw [List.drop_eq_nil_of_le (by omega)] at h
      exact h
    clear hld
    go_wp2_with fail
    refine (of_n (some ⟨b, off, none⟩) [] 0 0 w5 rfl (fun h => by cases h) (StrsAt.nil _ _) (by omega)).mono ?_
    rintro e w6 ⟨ar, cr, rfl, har, hb6⟩
    have haa6 := haa5.below hb6 (Nat.le_refl _)
    have hb06 : Below w0.heap.size w0 w6 := hb05.trans (hb6.mono hb05.size)
    clear haa5 hb05 hb6
    go_wp2_with fail
    refine (approved8n ar [] 0 cr id w6 rfl har (by omega)).mono ?_
    rintro e w7 ⟨rfl, hb7⟩
    have haa7 := haa6.below hb7 (Nat.le_refl _)
    have hb07 : Below w0.heap.size w0 w7 := hb06.trans (hb7.mono hb06.size)
    clear haa6 hb06 hb7 har
    have HW : Hid (X = (Y || inBy [] id)) := by
      have := HZ2.out; rw [HX.out, HY.out] at this; exact this
    generalize inBy [] id = Z at *
    by_cases hj : 0 ≤ j ∧ j < ss.length
    · obtain ⟨hj0, hj1⟩ := hj
      obtain ⟨n, rfl⟩ := Int.eq_ofNat_of_zero_le hj0
      have hjd0 : decide ((0 : Int) ≤ (n : Int)) = true := by simp
      obtain ⟨b', off', e', h1, hcn, _⟩ := hs.below hb07 (Nat.le_refl _) n (by omega)
      cases e'
      have HJ : Hid (inBy ss (ss.getD n ByteArray.empty) = true) := inBy_self ss n (by omega)
      generalize ss.getD n ByteArray.empty = sn at *
      go_wp2_with fail
      refine (approved8n aa ss ss.length ca sn w7 rfl haa7 (by omega)).mono ?_
      rintro e w8 ⟨rfl, hb8⟩
      have hb08 : Below w0.heap.size w0 w8 := hb07.trans (hb8.mono hb07.size)
      rw [HJ.out]
      rw [HW.out]
      cases Y <;> cases Z <;> (go_wp2; go_ret; exact ⟨rfl, hb08⟩)
    · have hjn : j < 0 ∨ (0 ≤ j ∧ (ss.length : Int) ≤ j) := by omega
      rw [HW.out]
      rcases hjn with hj0 | ⟨hj0, hj1⟩
      · cases Y <;> cases Z <;> (go_wp2; go_ret; exact ⟨rfl, hb07⟩)
      · cases Y <;> cases Z <;> (go_wp2; go_ret; exact ⟨rfl, hb07⟩)

set_option maxRecDepth 100000 in
set_option maxHeartbeats 1000000 in
theorem cut_out (a : Option Addr) (ss : List ByteArray) (cap : Nat) (id : ByteArray) (k j : Int) (w : World) (hs : StrsAt w a ss) (hl : ss.length ≤ maxLen) (hid : id.size ≤ maxLen) (hk : k < 0 ∨ (ss.length : Int) < k) :
    Calls Try.prog 4 #[.slice a ss.length cap, .string id, .int .i64 k, .int .i64 j] w fun e w' => e = .returned (.bool true) ∧ Below w.heap.size w w' := by
  go_enter Try.func4, Try.ntmps4
  go_wp2_with fail
  refine (bytes10_any _ ss cap id k j _ hs hl hid).mono ?_
  rintro e w0 ⟨b, rfl, rfl, hbd⟩
  cases b
  · go_wp2
    go_ret
    exact ⟨rfl, Below.refl _ _⟩
  have hn : ss.length ≤ 1048576 := hbd rfl
  clear hbd hl
  go_wp2_with fail
  refine (fit_any _ ss cap id _ hs hn hid).mono ?_
  rintro e w1 ⟨b, rfl, hb1⟩
  cases b
  · go_wp2
    go_ret
    exact ⟨rfl, hb1⟩
  rcases hk with hk | hk
  · go_wp2
    go_ret
    exact ⟨rfl, hb1⟩
  · have hk2 : ¬ k < 0 := by omega
    go_wp2
    go_ret
    exact ⟨rfl, hb1⟩

set_option maxRecDepth 100000 in
set_option maxHeartbeats 1000000 in
theorem cut_nil (id : ByteArray) (j : Int) (w : World) (hid : id.size ≤ maxLen) :
    Calls Try.prog 4 #[.slice none 0 0, .string id, .int .i64 0, .int .i64 j] w fun e w' => e = .returned (.bool true) ∧ Below w.heap.size w w' := by
  have hap : ∀ (w' : World) (a : Option Addr), ApsAt w' a [] := fun w' a i hi => by simp at hi
  go_enter Try.func4, Try.ntmps4
  go_wp2_with fail
  refine (bytes10_any none [] 0 id 0 j _ (StrsAt.nil _ _) (by simp) hid).mono ?_
  rintro e w0 ⟨b, rfl, rfl, hbd⟩
  cases b
  · go_wp2
    go_ret
    exact ⟨rfl, Below.refl _ _⟩
  clear hbd
  go_wp2_with fail
  refine (fit_any none [] 0 id _ (StrsAt.nil _ _) (by simp) hid).mono ?_
  rintro e w1 ⟨b, rfl, hb1⟩
  cases b
  · go_wp2
    go_ret
    exact ⟨rfl, hb1⟩
  go_wp2_with fail
  refine (of_nil w1).mono ?_
  rintro e w2 ⟨a2, c2, rfl, _, hb2⟩
  have hb02 := hb1.trans (hb2.mono hb1.size)
  go_wp2_with fail
  refine (approved8n a2 [] 0 c2 id w2 rfl (hap _ _) (by omega)).mono ?_
  rintro e w3 ⟨rfl, hb3⟩
  have hb03 := hb02.trans (hb3.mono hb02.size)
  go_wp2_with fail
  refine (of_nil w3).mono ?_
  rintro e w4 ⟨a4, c4, rfl, _, hb4⟩
  have hb04 := hb03.trans (hb4.mono hb03.size)
  go_wp2_with fail
  refine (approved8n a4 [] 0 c4 id w4 rfl (hap _ _) (by omega)).mono ?_
  rintro e w5 ⟨rfl, hb5⟩
  have hb05 := hb04.trans (hb5.mono hb04.size)
  go_wp2_with fail
  refine (of_nil w5).mono ?_
  rintro e w6 ⟨a6, c6, rfl, _, hb6⟩
  have hb06 := hb05.trans (hb6.mono hb05.size)
  go_wp2_with fail
  refine (approved8n a6 [] 0 c6 id w6 rfl (hap _ _) (by omega)).mono ?_
  rintro e w7 ⟨rfl, hb7⟩
  have hb07 := hb06.trans (hb7.mono hb06.size)
  have hin : inBy [] id = false := rfl
  rw [hin]
  clear hap hin hb1 hb2 hb3 hb4 hb5 hb6 hb7 hb02 hb03 hb04 hb05 hb06
  rcases (show j < 0 ∨ 0 ≤ j by omega) with hj | hj
  · go_wp2
    go_ret
    exact ⟨rfl, hb07⟩
  · go_wp2
    go_ret
    exact ⟨rfl, hb07⟩

set_option maxRecDepth 100000 in
set_option maxHeartbeats 1000000 in
theorem cut_empty (ad : Addr) (id : ByteArray) (j : Int) (w : World) (hid : id.size ≤ maxLen) :
    Calls Try.prog 4 #[.slice (some ad) 0 0, .string id, .int .i64 0, .int .i64 j] w fun e w' => e = .returned (.bool true) ∧ Below w.heap.size w w' := by
  have hap : ∀ (w' : World) (a : Option Addr), ApsAt w' a [] := fun w' a i hi => by simp at hi
  go_enter Try.func4, Try.ntmps4
  go_wp2_with fail
  refine (bytes10_any (some ad) [] 0 id 0 j _ (StrsAt.nil _ _) (by simp) hid).mono ?_
  rintro e w0 ⟨b, rfl, rfl, hbd⟩
  cases b
  · go_wp2
    go_ret
    exact ⟨rfl, Below.refl _ _⟩
  clear hbd
  go_wp2_with fail
  refine (fit_any (some ad) [] 0 id _ (StrsAt.nil _ _) (by simp) hid).mono ?_
  rintro e w1 ⟨b, rfl, hb1⟩
  cases b
  · go_wp2
    go_ret
    exact ⟨rfl, hb1⟩
  go_wp2_with fail
  refine (of_n (some ad) [] 0 0 w1 rfl (fun h => by cases h) (StrsAt.nil _ _) (by omega)).mono ?_
  rintro e w2 ⟨a2, c2, rfl, _, hb2⟩
  have hb02 := hb1.trans (hb2.mono hb1.size)
  go_wp2_with fail
  refine (approved8n a2 [] 0 c2 id w2 rfl (hap _ _) (by omega)).mono ?_
  rintro e w3 ⟨rfl, hb3⟩
  have hb03 := hb02.trans (hb3.mono hb02.size)
  go_wp2_with fail
  refine (of_n (some ad) [] 0 0 w3 rfl (fun h => by cases h) (StrsAt.nil _ _) (by omega)).mono ?_
  rintro e w4 ⟨a4, c4, rfl, _, hb4⟩
  have hb04 := hb03.trans (hb4.mono hb03.size)
  go_wp2_with fail
  refine (approved8n a4 [] 0 c4 id w4 rfl (hap _ _) (by omega)).mono ?_
  rintro e w5 ⟨rfl, hb5⟩
  have hb05 := hb04.trans (hb5.mono hb04.size)
  go_wp2_with fail
  refine (of_n (some ad) [] 0 0 w5 rfl (fun h => by cases h) (StrsAt.nil _ _) (by omega)).mono ?_
  rintro e w6 ⟨a6, c6, rfl, _, hb6⟩
  have hb06 := hb05.trans (hb6.mono hb05.size)
  go_wp2_with fail
  refine (approved8n a6 [] 0 c6 id w6 rfl (hap _ _) (by omega)).mono ?_
  rintro e w7 ⟨rfl, hb7⟩
  have hb07 := hb06.trans (hb7.mono hb06.size)
  have hin : inBy [] id = false := rfl
  rw [hin]
  clear hap hin hb1 hb2 hb3 hb4 hb5 hb6 hb7 hb02 hb03 hb04 hb05 hb06
  rcases (show j < 0 ∨ 0 ≤ j by omega) with hj | hj
  · go_wp2
    go_ret
    exact ⟨rfl, hb07⟩
  · go_wp2
    go_ret
    exact ⟨rfl, hb07⟩
end Go.Proofs.Qxb6616144a
