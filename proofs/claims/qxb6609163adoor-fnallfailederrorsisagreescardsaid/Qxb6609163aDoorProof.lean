/-
  THE ROW OF FnAllFailedErrorsIsAgrees, PROVED, AND ITS TIED CARD. After the guide's Sent6Proofs, MapyProofs, ToyasCard and the shell for slices.
-/
import Derived.Test.Qxb6609163aDoorRows
import Derived.Test.Qxb6609163aDoorMain
import Derived.Test.Qxb6609163aDoorTie
import Derived.Test.Qxb6609163aDoorCards
import Derived.ProofKit
import Derived.LaidMore
import Derived.OpenShut
import Derived.Stop.Joined
import Derived.Stop.LaidTwo
import Derived.SliceStrings
import Derived.ChangeSame
import Derived.ChangeVars
import Derived.ChangeOld
import Derived.Below
import Derived.SevenTiedAt
import Derived.OpenVars
set_option linter.unusedVariables false
namespace Go.Proofs.Qxb6609163aDoor.fnAllFailedErrorsIsAgrees
open Go.ChangeShapes Go.WideShapes Go.ChangeAt Go.RowKit

theorem own : ownKnob Tryd.prog.godebug = none := by kernel_rfl
theorem laidOut : laidOutB Tryd.prog = true := by kernel_rfl
theorem cells9 : Tryd.prog.cellsOf 9 = 1 := by kernel_rfl
theorem cells82 : Tryd.prog.cellsOf 82 = 1 := by kernel_rfl
theorem t0 : (Tryd.prog.globals[0]?).map (·.type) = some 32 := by kernel_rfl
theorem t1 : (Tryd.prog.globals[1]?).map (·.type) = some 32 := by kernel_rfl

/-- the name of the dynamic type that a listed datum bears -/
def nameOf : DataW Unit → String
  | .iface n _ => n
  | _ => default
/-- the two listed data -/
def laidAt (i : Nat) : DataW Unit := ((Rows.fnAllFailedErrorsIsAgreesRow.laid[i]?).map (·.2)).getD .nil
theorem row54 (u : TypeId) (h : Tryd.prog.typeName? 3 u = some (nameOf (laidAt 0))) : u = 54 := by
  have e : ((List.range Tryd.prog.types.size).all fun u => Tryd.prog.typeName? 3 u != some (nameOf (laidAt 0)) || u == 54) = true := by kernel_rfl
  have hstar : nameOf (laidAt 0) = String.singleton '*' ++ "errors.errorString" := by decide
  refine typeName_ptr_named (P := Tryd.prog) (nm := "errors.errorString") ?_ (by kernel_rfl) (by decide) u ?_
  · rw [hstar] at e; exact e
  · rw [hstar] at h; exact h

theorem door_met (os : Os) (args : Array Value) : laidMetH Tryd.prog Rows.fnAllFailedErrorsIsAgreesRow.laid ((World.doorLaid Tryd.prog 47 os).forCall (fun _ _ => 0) ⟨#[], args, []⟩).memory :=
  laidMetH_of_parts3 (fuel := 8) (laidMet_of_run' 8 (by kernel_rfl) (by kernel_rfl)) (by kernel_rfl) (by kernel_rfl)

/-- what the row tells of a slice of strings -/
theorem strs_of {H : Type} {enc : TypeId × Value → H} {W : World} {a : Option Addr} {len cap : Nat} {d : DataW H} {ps : List MemPlace} (h : DataW.Trod enc Tryd.prog W 0 (fun _ => true) true 22 (.slice a len cap) d ps) :
    len ≤ 9223372036854775807 ∧ ∃ b off S, Strs W a len b off S := by
  obtain ⟨fuel, hf⟩ := h
  rcases open_strings Tryd.underlying22 Tryd.underlying9 cells9 hf with ⟨hcs, _⟩ | ⟨x, l, c, ss, hcs, _, hl, hm, hz, _, hcell, hws⟩
  · simp [Value.cells] at hcs
    obtain ⟨rfl, rfl, rfl⟩ := hcs
    exact ⟨by omega, 0, 0, fun _ => ByteArray.empty, fun h => by omega, fun i hi => by omega, fun i hi => by omega⟩
  · simp [Value.cells] at hcs
    obtain ⟨rfl, rfl, rfl⟩ := hcs
    simp only [if_true] at hz
    unfold maxLen at hm
    refine ⟨by omega, ?_⟩
    rcases Nat.eq_zero_or_pos len with h0 | h0
    · exact ⟨0, 0, fun _ => ByteArray.empty, fun h => by omega, fun i hi => by omega, fun i hi => by omega⟩
    · have hp : 0 < ss.length := by omega
      obtain ⟨b, off, spot⟩ := x
      have hspot : spot = none := by simpa [Addr.add] using World.cell?_spot (hcell 0 hp)
      subst hspot
      refine ⟨b, off, fun i => ss.getD i ByteArray.empty, fun _ => rfl, fun i hi => ?_, fun i hi => ?_⟩
      · have := hcell i (by omega)
        rw [Go.WideShapes.add_plain] at this; exact this
      · have hm2 : ss.getD i ByteArray.empty ∈ ss := by
          rw [List.getD_eq_getElem?_getD, List.getElem?_eq_getElem (by omega)]; exact List.getElem_mem _
        have := hws _ hm2
        unfold maxLen at this; exact this

set_option maxRecDepth 100000 in
theorem lifted (os : Os) (started : os.Started) (H : Type) (enc : TypeId × Value → H) :
    ReturnsInHanded {} Tryd.checked os 3 .any (fun w args => (Rows.fnAllFailedErrorsIsAgreesSpec.pre enc Tryd.prog Tryd.f3 [] false w args ∧ laidMetH Tryd.prog Rows.fnAllFailedErrorsIsAgreesRow.laid w) ∧ sizedMet enc Tryd.prog Tryd.f3 (OpenSpec.ofChange Rows.fnAllFailedErrorsIsAgreesSpec) false w args)
      (Rows.fnAllFailedErrorsIsAgreesSpec.post enc Tryd.prog Tryd.f3 false true false false) := by
  refine returnsInHanded_of_change_and (C := Tryd.checked) (X := fun w _ => laidMetH Tryd.prog Rows.fnAllFailedErrorsIsAgreesRow.laid w) (fun _ _ _ hh h => h.of_heap hh) own started (by kernel_rfl) Tryd.func3
    (ChangeSpec.witness_shaped (enc := enc) (C := Tryd.checked) (os := os) (X := fun w _ => laidMetH Tryd.prog Rows.fnAllFailedErrorsIsAgreesRow.laid w) false (World.doorLaid Tryd.prog 47 os) #[.slice none 0 0, .slice none 0 0] 8 rfl (World.shaped_of_RefB (by kernel_rfl) (by kernel_rfl)) (by kernel_rfl) (by kernel_rfl) (by kernel_rfl) (door_met os _)) ?_
  intro W base args ds gs before hval0 hW _ _ hL _
  have hval : ∀ (j : Nat) t v, Tryd.f3.params[j]? = some t → args[j]? = some v → Value.okWide Tryd.prog W .any base t v := hval0
  have hW' := hW
  obtain ⟨p, q, hA0, hV, rfl, hfz, hnd⟩ := hW
  have hA : DataW.TrodAll enc Tryd.prog W 0 (fun _ => true) true Tryd.f3.params.toList args.toList ds p := hA0
  rw [Tryd.params3] at hA hval
  obtain ⟨v0, v1, d0, d1, p0, p1, rfl, rfl, rfl, h0, h1⟩ := trodAll_two hA
  obtain ⟨a0, len0, cap0, rfl⟩ := okWide_slice Tryd.underlying22 (hval 0 22 v0 rfl rfl)
  obtain ⟨a1, len1, cap1, rfl⟩ := okWide_slice Tryd.underlying22 (hval 1 22 v1 rfl rfl)
  have lt0 : ∀ x ∈ p0, x.block < W.heap.size := by obtain ⟨m, hm⟩ := h0; exact DataW.trod_lt m _ _ _ hm
  have lt1 : ∀ x ∈ p1, x.block < W.heap.size := by obtain ⟨m, hm⟩ := h1; exact DataW.trod_lt m _ _ _ hm
  obtain ⟨_, b0, o0, S0, s0⟩ := strs_of h0
  obtain ⟨hn1, b1, o1, S1, s1⟩ := strs_of h1
  rw [MakeChecks.laidMetH_plain _ _ _ (by kernel_rfl)] at hL
  obtain ⟨e0, e1, _, _, c0, c1, k0, k1, hv0, hv1, _, _, _, _, _, _, hne, hb0, hb1⟩ := laid_sentinels2 (P := Tryd.prog) (nm := nameOf (laidAt 0)) (tp := 54) (te := 82) (ts := 9) hL (by kernel_rfl) t0 (by kernel_rfl) t1 Tryd.underlying32 row54 Tryd.underlying54 Tryd.underlying82 rfl rfl Tryd.underlying9 cells82 cells9
  have v0 : W.cell? ⟨0, 0, none⟩ = some (.iface 54 (.pointer (some e0))) := by simpa using World.var?_cell (by kernel_rfl) hv0 0
  have v1 : W.cell? ⟨1, 0, none⟩ = some (.iface 54 (.pointer (some e1))) := by simpa using World.var?_cell (by kernel_rfl) hv1 0
  obtain ⟨_, _, _, _, y0, _, _, _, _, _, y1, _, rfl, _⟩ := trodVars_two hV
  clear hA0 hval0 hL
  refine (main_any a0 a1 len0 cap0 len1 cap1 b0 o0 b1 o1 S0 S1 W s0 s1 hn1 e0 e1 c1 c0 k1 k0 v0 v1 (Ne.symm hne) hb1 hb0).mono fun e W' ⟨he, bel⟩ => ?_
  subst he
  refine ⟨_, rfl, _, _, _, [], p0 ++ p1, q, hW', ?_, ?_, ?_, bel.frame _, fun h => by cases h⟩
  · exact trodAll_mk1 (shut_bool Tryd.underlying4 _)
  · exact trodAll_mk2 (Below.trod laidOut (by kernel_rfl) (of_decide_eq_true (by kernel_rfl)) h0 bel lt0) (Below.trod laidOut (by kernel_rfl) (of_decide_eq_true (by kernel_rfl)) h1 bel lt1)
  · exact Below.trodVars laidOut bel (by kernel_rfl) hV

theorem row_holds : Rows.FnAllFailedErrorsIsAgreesSaid :=
  OpenClaim.holds_of_wide 3 Tryd.f3 rfl rfl rfl rfl rfl rfl rfl ⟨rfl, rfl, rfl, rfl, rfl⟩ rfl rfl rfl rfl rfl (by kernel_rfl) Tryd.func3 (by kernel_rfl)
    (of_decide_eq_true (by kernel_rfl)) (by unfold Func.isWrapper; first | (rw [if_pos (by decide +kernel)]; kernel_rfl) | (rw [if_neg (by decide +kernel)]; exact ⟨rfl, rfl⟩))
    (fun os started H enc _ => lifted os started H enc)
#print axioms row_holds
end Go.Proofs.Qxb6609163aDoor.fnAllFailedErrorsIsAgrees
