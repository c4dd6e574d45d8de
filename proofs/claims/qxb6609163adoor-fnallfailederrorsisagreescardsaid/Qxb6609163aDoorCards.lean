/-
  DERIVED. GIVEN WITH THE SEED: THE CARDS: each row of Qxb6609163aDoorRows.lean that lists a variable, with what it lists TIED to the program's text (the seventh form; the later family's looks); each row that meets fmt, with fmt's text TOLD by the authors' own Lean function (tested against real Go, not proved from fmt's source: count such statements apart). THE CARD IS WHAT COUNTS. Prove the row's statement (the work); the ties are given (Qxb6609163aDoorTie.lean); close each card by the builder's one call (the guide's Derived/Test/ToyasCard.lean, 'card_holds'). Laid BY PROGRAM, IN A SANDBOX (cutbox-door.mjs). By AI agents, Wed Nov 11 2026. No macro, syntax, notation, axiom, sorry.
-/
import Derived.Test.Qxb6609163aDoorRows
import GoSem.ClaimSeven
namespace Go.Proofs.Qxb6609163aDoor
namespace Rows

/-- THE TIED CARD OF 'zzlaws_root_b1.FnAllFailedErrorsIsAgrees'. -/
def fnAllFailedErrorsIsAgreesCard : Claim7 := { stood := { row := fnAllFailedErrorsIsAgreesRow, standIns := [], harness := (true, "947e62f7b526ff912a7e1f4ee02375f4d4d2a23d9766bc2465961596e7c5eaff"), looks := true }, kinds := [], alts := [], laidByText := true, laidKinds := [.called, .called], laidTests := true, laidLooks := .later }
def FnAllFailedErrorsIsAgreesCardSaid : Prop := Claim7.holds Tryd.pinned (.plain (OpenSpec.ofChange fnAllFailedErrorsIsAgreesSpec)) fnAllFailedErrorsIsAgreesCard
end Rows
end Go.Proofs.Qxb6609163aDoor
