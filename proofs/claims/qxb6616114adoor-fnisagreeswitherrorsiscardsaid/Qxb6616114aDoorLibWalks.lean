import Derived.Test.Qxb6616114aDoorIsWalks
namespace Go.Proofs.Qxb6616114aDoor
open Go.RowKit Go.Extern.Stop Go.Stop Go.Extern

theorem Tryd.isTypeOf (v : Value) (w : World) : (Extern.ReflectliteType.typeOf #[.iface 40 v]).run Tryd.prog w = .ok (.iface 44 (.agg #[.pointer (some ⟨1, 40, none⟩)])) w := by kernel_rfl
/-- The model's entry for (rtype).Comparable, under a name of its own. -/
def cmpE : Array Value → Sem Value := Extern.ReflectliteType.method fun t => do Extern.Rtype.noPackHeld "Comparable" t; pure (.bool (← typeInfo t).comparable)
theorem Tryd.isComparable (w : World) : (cmpE #[.agg #[.pointer (some ⟨1, 40, none⟩)]]).run Tryd.prog w = .ok (.bool true) w := by kernel_rfl
theorem Tryd.isMethodComparable (v : Value) (w : World) : (Go.method 193 44 v "Comparable").run Tryd.prog w = .ok (36, v) w := by kernel_rfl
theorem Tryd.methodIs (p : Addr) (w : World) : (Go.method 193 24 (.pointer (some p)) "Is").run Tryd.prog w = .ok (11, .pointer (some p)) w := by kernel_rfl
theorem Tryd.hasIs (v : Value) (xT : TypeId) (w : World) : (Instr.typeAssert (.iface 24 v) xT 46 true).run Tryd.prog w = .ok (.tuple #[.iface 24 v, .bool true]) w := run_typeAssert_hasB Tryd.underlying46 (by kernel_rfl) v xT w
theorem Tryd.noUnwrap (v : Value) (xT : TypeId) (w : World) : (Instr.typeAssert (.iface 24 v) xT 48 true).run Tryd.prog w = .ok (.tuple #[.nilIface, .bool false]) w := run_typeAssert_lacksB Tryd.underlying48 (by kernel_rfl) (by kernel_rfl) v xT w
theorem Tryd.noUnwraps (v : Value) (xT : TypeId) (w : World) : (Instr.typeAssert (.iface 24 v) xT 50 true).run Tryd.prog w = .ok (.tuple #[.nilIface, .bool false]) w := run_typeAssert_lacksB Tryd.underlying50 (by kernel_rfl) (by kernel_rfl) v xT w

/-- errors.Is(e, ErrVersionMismatch), e a *VersionMismatchError: by its own method Is. -/
theorem lib_same (p a : Addr) (w : World) (hc : w.cell? ⟨0, 0, none⟩ = some (.iface 40 (.pointer (some a)))) :
    Calls Tryd.prog 12 #[.iface 24 (.pointer (some p)), .iface 40 (.pointer (some a))] w fun e w' => e = .returned (.bool true) ∧ w' = w := by
  obtain ⟨i, hi, hcmp⟩ := Option.map_eq_some_iff.1 Tryd.comp40
  obtain ⟨j, hj, hjs⟩ := Option.map_eq_some_iff.1 Tryd.size42
  have h14 := @run_callFunc_extern Tryd.prog 14 _ Extern.ReflectliteType.typeOf Tryd.func14 (by kernel_rfl) (by kernel_rfl) (by kernel_rfl) (by kernel_rfl)
  have h36 := @run_callFunc_extern Tryd.prog 36 _ cmpE Tryd.func36 (by kernel_rfl) (by kernel_rfl) (by kernel_rfl) (by kernel_rfl)
  have tT := Tryd.isTypeOf
  have cT := Tryd.isComparable
  have mR := Tryd.isMethodComparable
  have mI := Tryd.methodIs
  have nE := Tryd.hasIs
  have heq := run_eql_iface_ptr_same (P := Tryd.prog) w a Tryd.underlying32 Tryd.underlying40 hi hcmp hj
  have hty := run_eql_iface_types (P := Tryd.prog) 24 40 (.pointer (some p)) (.pointer (some a)) Tryd.underlying32 (by decide) w
  go_enter Tryd.func12, Tryd.ntmps12
  go_wp2
  refine wp_loop_rounds 1 ?_
  rw [rounds_succ]
  go_wp2
  go_ret
  exact ⟨rfl, rfl⟩

/-- errors.Is(e, y), y another *errors.errorString than the sentinel: false. -/
theorem lib_other (p a b : Addr) (ca cb : Array Value) (ta tb : TypeId) (w : World) (hc : w.cell? ⟨0, 0, none⟩ = some (.iface 40 (.pointer (some a)))) (hne : b ≠ a)
    (hb : w.heap[b.block]? = some (.cells cb tb (0, 0))) (ha : w.heap[a.block]? = some (.cells ca ta (0, 0))) :
    Calls Tryd.prog 12 #[.iface 24 (.pointer (some p)), .iface 40 (.pointer (some b))] w fun e w' => e = .returned (.bool false) ∧ w' = w := by
  obtain ⟨i, hi, hcmp⟩ := Option.map_eq_some_iff.1 Tryd.comp40
  obtain ⟨j, hj, hjs⟩ := Option.map_eq_some_iff.1 Tryd.size42
  have h14 := @run_callFunc_extern Tryd.prog 14 _ Extern.ReflectliteType.typeOf Tryd.func14 (by kernel_rfl) (by kernel_rfl) (by kernel_rfl) (by kernel_rfl)
  have h36 := @run_callFunc_extern Tryd.prog 36 _ cmpE Tryd.func36 (by kernel_rfl) (by kernel_rfl) (by kernel_rfl) (by kernel_rfl)
  have tT := Tryd.isTypeOf
  have cT := Tryd.isComparable
  have mR := Tryd.isMethodComparable
  have mI := Tryd.methodIs
  have nE := Tryd.hasIs
  have uE := Tryd.noUnwrap
  have vE := Tryd.noUnwraps
  have heq := run_eql_iface_ptr_other (P := Tryd.prog) w Tryd.underlying32 Tryd.underlying40 hi hcmp hj (by rw [hjs]; decide) hne hb ha
  have hty := run_eql_iface_types (P := Tryd.prog) 24 40 (.pointer (some p)) (.pointer (some b)) Tryd.underlying32 (by decide) w
  clear ha hb
  go_enter Tryd.func12, Tryd.ntmps12
  go_wp2
  refine wp_loop_rounds 1 ?_
  rw [rounds_succ]
  go_wp2
  go_ret
  exact ⟨rfl, rfl⟩

/-- The thin file's two callers of errors.Is. -/
theorem libSentinel (p : Addr) {a : Addr} {ca : Array Value} {ta : TypeId} {w : World} (h : Snt a ca ta w) :
    Calls Tryd.prog 7 #[.pointer (some p)] w fun e w' => e = .returned (.bool true) ∧ w' = w := by
  have hc := h.1
  go_enter Tryd.func7, Tryd.ntmps7
  go_wp2_with (go_at_call 12; refine (lib_same _ a _ hc).mono ?_; rintro e w' ⟨rfl, rfl⟩)
  go_ret
  exact ⟨rfl, rfl⟩

theorem new_any (s : ByteArray) (w : World) :
    Calls Tryd.prog 13 #[.string s] w fun e w' => e = .returned (.iface 40 (.pointer (some ⟨w.heap.size, 0, none⟩))) ∧ w' = w.alloc (.cells #[.string s] 42) := by
  go_enter Tryd.func13, Tryd.ntmps13
  go_wp2
  go_ret
  exact ⟨rfl, rfl⟩

theorem lib_fresh (p : Addr) (s : ByteArray) {a : Addr} {ca : Array Value} {ta : TypeId} {w : World} (h : Snt a ca ta w) :
    Calls Tryd.prog 12 #[.iface 24 (.pointer (some p)), .iface 40 (.pointer (some ⟨w.heap.size, 0, none⟩))] (w.alloc (.cells #[.string s] 42)) fun e w' => e = .returned (.bool false) ∧ w' = w.alloc (.cells #[.string s] 42) := by
  obtain ⟨hc1, hn1⟩ := h.alloc (.cells #[.string s] 42)
  obtain ⟨hc, hb⟩ := h
  have hlt : a.block < w.heap.size := by
    rcases Nat.lt_or_ge a.block w.heap.size with h | h
    · exact h
    · simp [Array.getElem?_eq_none h] at hb
  have hne : (⟨w.heap.size, 0, none⟩ : Addr) ≠ a := fun e => by
    rw [← e] at hlt
    exact Nat.lt_irrefl _ hlt
  have hn0 : (w.alloc (.cells #[.string s] 42)).heap[(⟨w.heap.size, 0, none⟩ : Addr).block]? = some (.cells #[.string s] 42 (0, 0)) := by
    show (w.heap.push _)[w.heap.size]? = _
    simp
  exact lib_other p a ⟨w.heap.size, 0, none⟩ ca _ ta _ _ hc1 hne hn0 hn1

theorem libFresh (p : Addr) (s : ByteArray) {a : Addr} {ca : Array Value} {ta : TypeId} {w : World} (h : Snt a ca ta w) :
    Calls Tryd.prog 9 #[.pointer (some p), .string s] w fun e w' => e = .returned (.bool false) ∧ w' = w.alloc (.cells #[.string s] 42) := by
  go_enter Tryd.func9, Tryd.ntmps9
  go_wp2_with (first
    | (go_at_call 13; refine (new_any _ _).mono ?_; rintro e w' ⟨rfl, rfl⟩)
    | (go_at_call 12; refine (lib_fresh _ s h).mono ?_; rintro e w' ⟨rfl, rfl⟩))
  go_ret
  exact ⟨rfl, rfl⟩

theorem bytes_ok3 (c1 : Int) (s : ByteArray) (w : World) (hs : s.size ≤ 1048576) :
    Calls Tryd.prog 5 #[.int .u64 c1, .string s] w fun e w' => e = .returned (.bool true) ∧ w' = w := by
  have hs1 : ¬ (1048576 : Int) < (s.size : Int) := by omega
  go_enter Tryd.func5, Tryd.ntmps5
  go_wp2
  go_ret
  exact ⟨rfl, rfl⟩

/-- THE LAW, text no longer than the bound. -/
theorem agrees_short (c1 : Int) (s : ByteArray) (a : Addr) (ca : Array Value) (ta : TypeId) (w : World) (hs : s.size ≤ 1048576) (h : Snt a ca ta w) :
    Calls Tryd.prog 3 #[.int .u64 c1, .string s] w fun e w' => e = .returned (.bool true) ∧ Below w.heap.size w w' := by
  have hs1 : ¬ (1048576 : Int) < (s.size : Int) := by omega
  go_enter Tryd.func3, Tryd.ntmps3
  go_wp2_with (first
    | (go_at_call 5; refine (bytes_ok3 _ _ _ hs).mono ?_; rintro e w' ⟨rfl, rfl⟩)
    | (go_at_call 6; refine (isSentinel' _ (a := a) (ca := ca) (ta := ta) ?_).mono ?_; (repeat (first | exact h | apply Snt.alloc)); rintro e w' ⟨rfl, rfl⟩)
    | (go_at_call 7; refine (libSentinel _ (a := a) (ca := ca) (ta := ta) ?_).mono ?_; (repeat (first | exact h | apply Snt.alloc)); rintro e w' ⟨rfl, rfl⟩)
    | (go_at_call 8; refine (isFresh' _ _ (a := a) (ca := ca) (ta := ta) ?_).mono ?_; (repeat (first | exact h | apply Snt.alloc)); rintro e w' ⟨rfl, rfl⟩)
    | (go_at_call 9; refine (libFresh _ _ (a := a) (ca := ca) (ta := ta) ?_).mono ?_; (repeat (first | exact h | apply Snt.alloc)); rintro e w' ⟨rfl, rfl⟩))
  go_ret
  exact ⟨rfl, by repeat (first | exact Below.refl _ _ | (refine Below.alloc ?_ (by simp <;> omega) _))⟩

theorem agrees_long (c1 : Int) (s : ByteArray) (w : World) (hs : ¬ s.size ≤ 1048576) :
    Calls Tryd.prog 3 #[.int .u64 c1, .string s] w fun e w' => e = .returned (.bool true) ∧ Below w.heap.size w w' := by
  have hs1 : (1048576 : Int) < (s.size : Int) := by omega
  go_enter Tryd.func3, Tryd.ntmps3
  go_wp2
  go_ret
  exact ⟨rfl, Below.refl _ _⟩
end Go.Proofs.Qxb6616114aDoor
