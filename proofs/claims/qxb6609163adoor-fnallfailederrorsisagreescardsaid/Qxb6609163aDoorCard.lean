/-
  THE TIED CARD OF FnAllFailedErrorsIsAgrees: the row that is proved in Qxb6609163aDoorProof.lean, its two listed variables tied to the program's text (the given tie). After the guide's ToyasCard.
-/
import Derived.Test.Qxb6609163aDoorProof
import Derived.Test.Qxb6609163aDoorTie
import Derived.Test.Qxb6609163aDoorCards
import Derived.SevenTiedAt
namespace Go.Proofs.Qxb6609163aDoor.fnAllFailedErrorsIsAgrees
open Go

theorem proved : Rows.FnAllFailedErrorsIsAgreesCardSaid :=
  Claim7.holds_tied_plain_at .later [] [.called, .called] true (true, "947e62f7b526ff912a7e1f4ee02375f4d4d2a23d9766bc2465961596e7c5eaff") true
    row_holds (fun _ h => by cases h) (by kernel_rfl) (fun _ h => by cases h) fnAllFailedErrorsIsAgrees_row_tie rfl ⟨rfl, rfl⟩ (by kernel_rfl) rfl
    (fun f fn hf hfn => by
      obtain rfl : f = 3 := Option.some.inj ((show Tryd.prog.funcNamed Rows.fnAllFailedErrorsIsAgreesRow.func = some 3 by kernel_rfl).symm.trans hf) |>.symm
      obtain rfl : fn = Tryd.f3 := (Option.some.inj (Tryd.func3.symm.trans hfn)).symm
      exact ⟨by kernel_rfl, fun j t ht => by
        rw [Tryd.params3] at ht
        have h3 : t = 22 := by
          rcases j with _ | _ | j
          · simpa using ht.symm
          · simpa using ht.symm
          · simp at ht
        subst h3
        exact (show Tryd.prog.wantsStandIn 22 = false by kernel_rfl)⟩)
    (by kernel_rfl)
#print axioms proved
end Go.Proofs.Qxb6609163aDoor.fnAllFailedErrorsIsAgrees
