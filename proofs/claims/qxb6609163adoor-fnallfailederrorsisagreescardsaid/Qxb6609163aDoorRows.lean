/-
  NARROWER THAN 'FOR EVERY INPUT', by the rows' own cells (each row's printed sentence says how): FnAllFailedErrorsIsAgrees: ifaces, laid.
  DERIVED. THE GIVEN ROWS OF THIS SEAT. 1 by the template 'for every input the law returns true; each argument reads behind the call as it read before'; 0 by the template 'total and deterministic' (their statements: Qxb6609163aDoorTotals.lean).
  GIVEN WITH THE SEED: the statements are not yours to turn. If you find one false, say at which input.
  Laid BY PROGRAM, IN A SANDBOX (cutbox-rows.mjs): the forced cells as the released guide's own fill.sh prints them over the translation eb8b3ecabad0d76d… (all of the seat's roots in one cut). By AI agents, Wed Nov 11 2026. No macro, syntax, notation, axiom, sorry.
-/
import Derived.Test.Qxb6609163aDoorChecked
import GoSem.Claim
import GoSem.ClaimJoined
import GoSem.ClaimMapViews
import Derived.JoinedTies
import Derived.KernelRfl
namespace Go.Proofs.Qxb6609163aDoor
/- THE CELL 'sum', in the pinned program and in every row, IS THE sha256 OF THE DUMP (.gsa) THAT Qxb6609163aDoorProg.lean LOADS. Nothing in Lean hashes anything: it is a label: what it is worth is what the hold of that sum in a sandbox is worth. -/
noncomputable def Tryd.pinned : Pinned := { name := "qxb6609163adoor", sum := "eb8b3ecabad0d76db2d8c46e464104615049ac4b9f5392eb9bf8d834931adafd", checked := Tryd.checked }
namespace Rows
def none {H : Type} : Left H := { results := [], args := [] }

/- WHAT THE LISTED PACKAGE-LEVEL VARIABLES READ AS WHEN THE CALL BEGINS. Each datum BY PROGRAM (the guide's laid-datum.mjs) off the statement by which the dump's own 'gosem.cut.vars' lays the variable. In a bare row this is a premise. The card (Qxb6609163aDoorCards.lean) ties it to the program's text. -/
def laid_example_com_lifeline_for_nodes_lifeline_for_nodes_ErrNoEligibleUpstreams {H : Type} : DataW H := .iface "*errors.errorString" (.ptr (.agg [.lit (.string [108, 105, 102, 101, 108, 105, 110, 101, 58, 32, 110, 111, 32, 101, 108, 105, 103, 105, 98, 108, 101, 32, 117, 112, 115, 116, 114, 101, 97, 109, 115])]))
def laid_example_com_lifeline_for_nodes_lifeline_for_nodes_ErrInvalidUpstream {H : Type} : DataW H := .iface "*errors.errorString" (.ptr (.agg [.lit (.string [108, 105, 102, 101, 108, 105, 110, 101, 58, 32, 105, 110, 118, 97, 108, 105, 100, 32, 117, 112, 115, 116, 114, 101, 97, 109])]))

/-- 'zzlaws_root_b1.FnAllFailedErrorsIsAgrees': WHATEVER THE INPUT: true; the input reads as it did. -/
def fnAllFailedErrorsIsAgreesSpec : ChangeSpec := { name := "fnAllFailedErrorsIsAgrees", vars := ["example.com/lifeline-for-nodes/lifeline-for-nodes.ErrNoEligibleUpstreams", "example.com/lifeline-for-nodes/lifeline-for-nodes.ErrInvalidUpstream"], fn := fun _ => fun
  | [d1, d2, g1, g2] => { results := [.lit (.bool true)], args := [d1, d2], vars := [g1, g2] }
  | _ => none }
def fnAllFailedErrorsIsAgreesRow : OpenClaim := { program := "qxb6609163adoor", sum := "eb8b3ecabad0d76db2d8c46e464104615049ac4b9f5392eb9bf8d834931adafd", func := "example.com/lifeline-for-nodes/lifeline-for-nodes/zzlaws_root_b1.FnAllFailedErrorsIsAgrees", spec := "fnAllFailedErrorsIsAgrees", inPlace := ["internal/reflectlite.TypeOf"], unfollowed := true, recurses := true, named := ["example.com/lifeline-for-nodes/lifeline-for-nodes.ErrNoEligibleUpstreams", "example.com/lifeline-for-nodes/lifeline-for-nodes.ErrInvalidUpstream"], ifaces := true, apart := false, laid := [("example.com/lifeline-for-nodes/lifeline-for-nodes.ErrNoEligibleUpstreams", laid_example_com_lifeline_for_nodes_lifeline_for_nodes_ErrNoEligibleUpstreams), ("example.com/lifeline-for-nodes/lifeline-for-nodes.ErrInvalidUpstream", laid_example_com_lifeline_for_nodes_lifeline_for_nodes_ErrInvalidUpstream)] }
def FnAllFailedErrorsIsAgreesSaid : Prop := fnAllFailedErrorsIsAgreesRow.holds Tryd.pinned (OpenSpec.ofChange fnAllFailedErrorsIsAgreesSpec)

/-- ITS FALSE NEIGHBOUR: 'it returns false'. Refute it at one input. -/
def fnAllFailedErrorsIsAgreesWrong : ChangeSpec := { name := "fnAllFailedErrorsIsAgrees", vars := ["example.com/lifeline-for-nodes/lifeline-for-nodes.ErrNoEligibleUpstreams", "example.com/lifeline-for-nodes/lifeline-for-nodes.ErrInvalidUpstream"], fn := fun _ => fun
  | [d1, d2, g1, g2] => { results := [.lit (.bool false)], args := [d1, d2], vars := [g1, g2] }
  | _ => none }
def FnAllFailedErrorsIsAgreesWrongFalsely : Prop := fnAllFailedErrorsIsAgreesRow.holds Tryd.pinned (OpenSpec.ofChange fnAllFailedErrorsIsAgreesWrong)

end Rows
end Go.Proofs.Qxb6609163aDoor
