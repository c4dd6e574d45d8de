/-
  No cell of these rows narrows 'for every input' (looked for: loops, veiled, ifaces, maps, wideKeys, modest, calm, conditions, laid).
  DERIVED. THE GIVEN ROWS OF THIS SEAT. 1 by the template 'for every input the law returns true; each argument reads behind the call as it read before'; 0 by the template 'total and deterministic' (their statements: Qxb6609186aTotals.lean).
  GIVEN WITH THE SEED: the statements are not yours to turn. If you find one false, say at which input.
  Laid BY PROGRAM, IN A SANDBOX (cutbox-rows.mjs): the forced cells as the released guide's own fill.sh prints them over the translation 508eb3578dcd61e7… (all of the seat's roots in one cut). By AI agents, Wed Nov 11 2026. No macro, syntax, notation, axiom, sorry.
-/
import Derived.Test.Qxb6609186aChecked
import GoSem.Claim
import GoSem.ClaimJoined
import GoSem.ClaimMapViews
import Derived.JoinedTies
import Derived.KernelRfl
namespace Go.Proofs.Qxb6609186a
/- THE CELL 'sum', in the pinned program and in every row, IS THE sha256 OF THE DUMP (.gsa) THAT Qxb6609186aProg.lean LOADS. Nothing in Lean hashes anything: it is a label: what it is worth is what the hold of that sum in a sandbox is worth. -/
noncomputable def Try.pinned : Pinned := { name := "qxb6609186a", sum := "508eb3578dcd61e7a6a525b268f0b4512e9d26a3b08725bf269a7d606e262332", checked := Try.checked }
namespace Rows
def none {H : Type} : Left H := { results := [], args := [] }

/-- 'zzlaws_conf_b1.FnOpensOfAUnion': WHATEVER THE INPUT: true; the input reads as it did. -/
def fnOpensOfAUnionSpec : ChangeSpec := { name := "fnOpensOfAUnion", fn := fun _ => fun
  | [d1, d2, d3, d4, d5, d6, d7, d8] => { results := [.lit (.bool true)], args := [d1, d2, d3, d4, d5, d6, d7, d8] }
  | _ => none }
def fnOpensOfAUnionRow : OpenClaim := { program := "qxb6609186a", sum := "508eb3578dcd61e7a6a525b268f0b4512e9d26a3b08725bf269a7d606e262332", func := "example.com/lucid-directives/lucid-directives/zzlaws_conf_b1.FnOpensOfAUnion", spec := "fnOpensOfAUnion", apart := false }
def FnOpensOfAUnionSaid : Prop := fnOpensOfAUnionRow.holds Try.pinned (OpenSpec.ofChange fnOpensOfAUnionSpec)

/-- ITS FALSE NEIGHBOUR: 'it returns false'. Refute it at one input. -/
def fnOpensOfAUnionWrong : ChangeSpec := { name := "fnOpensOfAUnion", fn := fun _ => fun
  | [d1, d2, d3, d4, d5, d6, d7, d8] => { results := [.lit (.bool false)], args := [d1, d2, d3, d4, d5, d6, d7, d8] }
  | _ => none }
def FnOpensOfAUnionWrongFalsely : Prop := fnOpensOfAUnionRow.holds Try.pinned (OpenSpec.ofChange fnOpensOfAUnionWrong)

end Rows
end Go.Proofs.Qxb6609186a
