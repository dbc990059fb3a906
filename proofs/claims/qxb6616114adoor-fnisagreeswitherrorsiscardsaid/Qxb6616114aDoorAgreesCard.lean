import Derived.Test.Qxb6616114aDoorAgProof
import Derived.Test.Qxb6616114aDoorTie
import Derived.Test.Qxb6616114aDoorCards
import Derived.SevenTiedAt
namespace Go.Proofs.Qxb6616114aDoor
open Go

/-- THE TIED CARD OF FnIsAgreesWithErrorsIs. -/
theorem agrees_card : Rows.FnIsAgreesWithErrorsIsCardSaid :=
  Claim7.holds_tied_plain_at .later [] [.sentinel] true (true, "b07e8dcafaa7ad5900cb6a7dd027c495b7a550b531c883b03dde7de6c239d362") true
    agrees_holds (fun _ h => by cases h) (by kernel_rfl) (fun _ h => by cases h) fnIsAgreesWithErrorsIs_row_tie rfl ⟨rfl, rfl⟩ (by kernel_rfl) rfl
    (fun f fn hf hfn => by
      obtain rfl : f = 3 := Option.some.inj ((show Tryd.prog.funcNamed Rows.fnIsAgreesWithErrorsIsRow.func = some 3 by kernel_rfl).symm.trans hf) |>.symm
      obtain rfl : fn = Tryd.f3 := (Option.some.inj (Tryd.func3.symm.trans hfn)).symm
      exact ⟨by kernel_rfl, fun j t ht => by
        rw [Tryd.params3] at ht
        have hm : t ∈ [22, 9] := by simpa using Array.mem_of_getElem? ht
        have hall : ([22, 9].all fun u => !Tryd.prog.wantsStandIn u) = true := by kernel_rfl
        exact (show Tryd.prog.wantsStandIn t = false by simpa using List.all_eq_true.1 hall t hm)⟩)
    (by kernel_rfl)
end Go.Proofs.Qxb6616114aDoor
