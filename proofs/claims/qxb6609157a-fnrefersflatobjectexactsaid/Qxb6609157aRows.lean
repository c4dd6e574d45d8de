/-
  No cell of these rows narrows 'for every input' (looked for: loops, veiled, ifaces, maps, wideKeys, modest, calm, conditions, laid).
  DERIVED. THE GIVEN ROWS OF THIS SEAT. 2 by the template 'for every input the law returns true; each argument reads behind the call as it read before'; 0 by the template 'total and deterministic' (their statements: Qxb6609157aTotals.lean).
  GIVEN WITH THE SEED: the statements are not yours to turn. If you find one false, say at which input.
  Laid BY PROGRAM, IN A SANDBOX (cutbox-rows.mjs): the forced cells as the released guide's own fill.sh prints them over the translation 5cf3d5f7ba61ef05… (all of the seat's roots in one cut). By AI agents, Wed Nov 11 2026. No macro, syntax, notation, axiom, sorry.
-/
import Derived.Test.Qxb6609157aChecked
import GoSem.Claim
import GoSem.ClaimJoined
import GoSem.ClaimMapViews
import Derived.JoinedTies
import Derived.KernelRfl
namespace Go.Proofs.Qxb6609157a
/- THE CELL 'sum', in the pinned program and in every row, IS THE sha256 OF THE DUMP (.gsa) THAT Qxb6609157aProg.lean LOADS. Nothing in Lean hashes anything: it is a label: what it is worth is what the hold of that sum in a sandbox is worth. -/
noncomputable def Try.pinned : Pinned := { name := "qxb6609157a", sum := "5cf3d5f7ba61ef05138fa1131b7824a9f81a976d452f19f05b6e62bd50bd6b15", checked := Try.checked }
namespace Rows
def none {H : Type} : Left H := { results := [], args := [] }

/-- 'zzlaws_rules_b1.FnRefersFlatObjectExact': WHATEVER THE INPUT: true; the input reads as it did. -/
def fnRefersFlatObjectExactSpec : ChangeSpec := { name := "fnRefersFlatObjectExact", fn := fun _ => fun
  | [d1, d2, d3, d4] => { results := [.lit (.bool true)], args := [d1, d2, d3, d4] }
  | _ => none }
def fnRefersFlatObjectExactRow : OpenClaim := { program := "qxb6609157a", sum := "5cf3d5f7ba61ef05138fa1131b7824a9f81a976d452f19f05b6e62bd50bd6b15", func := "example.com/toggle-set-server/toggle-set-server/zzlaws_rules_b1.FnRefersFlatObjectExact", spec := "fnRefersFlatObjectExact", unfollowed := true, recurses := true, apart := false }
def FnRefersFlatObjectExactSaid : Prop := fnRefersFlatObjectExactRow.holds Try.pinned (OpenSpec.ofChange fnRefersFlatObjectExactSpec)

/-- ITS FALSE NEIGHBOUR: 'it returns false'. Refute it at one input. -/
def fnRefersFlatObjectExactWrong : ChangeSpec := { name := "fnRefersFlatObjectExact", fn := fun _ => fun
  | [d1, d2, d3, d4] => { results := [.lit (.bool false)], args := [d1, d2, d3, d4] }
  | _ => none }
def FnRefersFlatObjectExactWrongFalsely : Prop := fnRefersFlatObjectExactRow.holds Try.pinned (OpenSpec.ofChange fnRefersFlatObjectExactWrong)

/-- 'zzlaws_rules_b1.FnRefersNestedInListExact': WHATEVER THE INPUT: true; the input reads as it did. -/
def fnRefersNestedInListExactSpec : ChangeSpec := { name := "fnRefersNestedInListExact", fn := fun _ => fun
  | [d1, d2, d3, d4] => { results := [.lit (.bool true)], args := [d1, d2, d3, d4] }
  | _ => none }
def fnRefersNestedInListExactRow : OpenClaim := { program := "qxb6609157a", sum := "5cf3d5f7ba61ef05138fa1131b7824a9f81a976d452f19f05b6e62bd50bd6b15", func := "example.com/toggle-set-server/toggle-set-server/zzlaws_rules_b1.FnRefersNestedInListExact", spec := "fnRefersNestedInListExact", unfollowed := true, recurses := true, apart := false }
def FnRefersNestedInListExactSaid : Prop := fnRefersNestedInListExactRow.holds Try.pinned (OpenSpec.ofChange fnRefersNestedInListExactSpec)

/-- ITS FALSE NEIGHBOUR: 'it returns false'. Refute it at one input. -/
def fnRefersNestedInListExactWrong : ChangeSpec := { name := "fnRefersNestedInListExact", fn := fun _ => fun
  | [d1, d2, d3, d4] => { results := [.lit (.bool false)], args := [d1, d2, d3, d4] }
  | _ => none }
def FnRefersNestedInListExactWrongFalsely : Prop := fnRefersNestedInListExactRow.holds Try.pinned (OpenSpec.ofChange fnRefersNestedInListExactWrong)

end Rows
end Go.Proofs.Qxb6609157a
