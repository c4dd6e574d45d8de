import Derived.Test.Qxb6612581aEx
import Derived.WalkKit
import Derived.WalkSpells
import Derived.WalkLawsBesides
import Derived.Deep.LoopGhost
set_option linter.unusedVariables false
namespace Go.Proofs.Qxb6612581a
open Go.RowKit

theorem before_ex {w : World} {B eb hb n : Nat} {P T : Nat → Nat} {K : Nat → Int} (h : Ex w B eb hb n P T K) {i j : Nat} (hi : i < n) (hj : j < n) (hn : n ≤ 65536) (b : Bool) (hb' : decide (K (T i) < K (T j)) = b) :
    Calls Try.prog 38 #[.pointer (some ⟨eb, 0, none⟩), .int .i64 i, .int .i64 j] w fun e w' => e = .returned (.bool b) ∧ Below w.heap.size w w' := by
  have ri := h.rng i hi
  have rj := h.rng j hj
  rw [← hb']
  exact before_any eb hb n i j _ _ _ _ w h.he (h.hold i hi) (h.hold j hj) (h.t7 _ ri) (h.t8 _ ri) (h.t9 _ ri) (h.t7 _ rj) (h.t8 _ rj) (h.t9 _ rj) (by omega) (by omega) hn

theorem swap_ex {w : World} {B eb hb n : Nat} {P T : Nat → Nat} {K : Nat → Int} (h : Ex w B eb hb n P T K) {i j : Nat} (hi : i < n) (hj : j < n) (hn : n ≤ 65536) (hij : i ≠ j) :
    Calls Try.prog 39 #[.pointer (some ⟨eb, 0, none⟩), .int .i64 i, .int .i64 j] w fun e w' => e = .returned (.tuple #[]) ∧ Ex w' B eb hb n P (swp T i j) K ∧ Below B w w' := by
  have ri := h.rng i hi
  have rj := h.rng j hj
  have dij : P (T i) ≠ P (T j) := fun e => hij (h.tinj i j hi hj (h.inj _ _ ri rj e))
  refine (swap_any eb hb n i j _ _ _ _ w h.he (h.hold i hi) (h.hold j hj) (h.idx i hi) (h.idx j hj) (h.hfz i hi) (h.hfz j hj) (h.ifz _ ri) (h.ifz _ rj) (by omega) (by omega) hn hij h.ne.1 dij (h.ne.2 _ ri).1 (h.ne.2 _ rj).1).mono ?_
  rintro e w' ⟨rfl, rfl⟩
  exact ⟨rfl, h.swap hi hj hij, swapped_below h.lo.2.1 (h.lo.2.2 _ ri) (h.lo.2.2 _ rj)⟩

set_option maxHeartbeats 400000 in
theorem up_any (w : World) (B eb hb n : Nat) (P T0 : Nat → Nat) (K : Nat → Int) (j0 : Nat) (h : Ex w B eb hb n P T0 K) (hj0 : j0 < n) (hn : n ≤ 65536) :
    Calls Try.prog 29 #[.pointer (some ⟨eb, 0, none⟩), .int .i64 j0] w fun e w' => e = .returned (.tuple #[]) ∧ Ex w' B eb hb n P (upF K j0 j0 T0) K ∧ Below B w w' := by
  have hsz : B ≤ w.heap.size := by have := h.lo.1; have := h.hi.1; omega
  go_enter Try.func29, Try.ntmps29
  go_wp2
  go_loopw [1] (fun jv wr => ∃ (j f : Nat) (T : Nat → Nat), jv = .int .i64 j ∧ j < n ∧ j ≤ f ∧ Ex wr B eb hb n P T K ∧ Below B w wr ∧ Hid (upF K j0 j0 T0 = upF K f j T)) (fun jv _ => (intOf jv).toNat)
  case atStart => exact ⟨j0, j0, T0, rfl, hj0, Nat.le_refl _, h, Below.refl _ _, rfl⟩
  case round =>
    obtain ⟨j, f, T, rfl, hj, hf, hE, hB, HU⟩ := hrel
    by_cases hpos : 0 < j
    · obtain ⟨i, hi, hI⟩ : ∃ i : Nat, ((j : Int) - 1) / 2 = (i : Int) ∧ Hid (i = (j - 1) / 2) := ⟨(j - 1) / 2, by omega, rfl⟩
      have hij : i < j := by have := hI.out; omega
      by_cases hlt : K (T j) < K (T i)
      · have C1 := before_ex hE hj (by omega : i < n) hn true (decide_eq_true hlt)
        have HL : Hid (K (T j) < K (T i)) := hlt
        clear hlt
        go_wp2_with fail
        refine C1.mono ?_
        rintro e w1 ⟨rfl, hb1⟩
        have hE1 := hE.below hb1
        have C2 := swap_ex hE1 (by omega : i < n) hj hn (by omega : i ≠ j)
        have hB1 : Below B w w1 := hB.trans (hb1.mono (by have := hB.size; omega))
        clear C1
        go_wp2_with fail
        refine C2.mono ?_
        rintro e w2 ⟨rfl, hE2, hb2⟩
        clear C2
        go_wp2_with fail
        go_roundw
        case rel =>
          refine ⟨i, f - 1, swp T i j, rfl, by omega, by omega, hE2, hB1.trans hb2, ?_⟩
          have e := upF_go K f j T hpos hf (by rw [← hI.out]; exact HL.out)
          rw [← hI.out] at e
          exact HU.out.trans e
        case measure => simp [intOf]; omega
      · have C1 := before_ex hE hj (by omega : i < n) hn false (decide_eq_false hlt)
        have HL : Hid (¬ K (T j) < K (T i)) := hlt
        clear hlt
        go_wp2_with fail
        refine C1.mono ?_
        rintro e w1 ⟨rfl, hb1⟩
        have hE1 := hE.below hb1
        have hB1 : Below B w w1 := hB.trans (hb1.mono (by have := hB.size; omega))
        clear C1
        go_wp2_with fail
        have e := upF_stop K f j T (by rw [← hI.out]; have := HL.out; omega)
        exact bodyPost_ret (v := .tuple #[]) (results_none rfl _ _ _) rfl ⟨rfl, by rw [HU.out, e]; exact hE1, hB1⟩
    · go_wp2_with fail
      go_end0
      obtain rfl : j = 0 := by omega
      rw [HU.out, upF_zero]
      exact ⟨rfl, hE, hB⟩

set_option maxHeartbeats 400000 in
theorem up_none (w : World) (p : Addr) (j : Int) (hj : j ≤ 0) :
    Calls Try.prog 29 #[.pointer (some p), .int .i64 j] w fun e w' => e = .returned (.tuple #[]) ∧ w' = w := by
  go_enter Try.func29, Try.ntmps29
  go_wp2
  go_loop [1] (fun jv => jv = .int .i64 j) (fun _ => 0)
  case atStart => rfl
  case round =>
    obtain rfl := hrel
    go_wp2_with fail
    go_end0
    exact ⟨rfl, rfl⟩

set_option maxHeartbeats 400000 in
theorem ZZup_any (w : World) (B eb hb n : Nat) (P T0 : Nat → Nat) (K : Nat → Int) (j0 : Nat) (h : Ex w B eb hb n P T0 K) (hj0 : j0 < n) (hn : n ≤ 65536) :
    Calls Try.prog 11 #[.pointer (some ⟨eb, 0, none⟩), .int .i64 j0] w fun e w' => e = .returned (.tuple #[]) ∧ Ex w' B eb hb n P (upF K j0 j0 T0) K ∧ Below B w w' := by
  have C := up_any w B eb hb n P T0 K j0 h hj0 hn
  go_enter Try.func11, Try.ntmps11
  go_wp2_with fail
  refine C.mono ?_
  rintro e w1 ⟨rfl, hE, hb⟩
  go_wp2_with fail
  go_end0
  exact ⟨rfl, hE, hb⟩

set_option maxHeartbeats 400000 in
theorem ZZup_none (w : World) (p : Addr) (j : Int) (hj : j ≤ 0) :
    Calls Try.prog 11 #[.pointer (some p), .int .i64 j] w fun e w' => e = .returned (.tuple #[]) ∧ w' = w := by
  go_enter Try.func11, Try.ntmps11
  go_wp2_with fail
  refine (up_none w p j hj).mono ?_
  rintro e w1 ⟨rfl, rfl⟩
  go_wp2_with fail
  go_end0
  exact ⟨rfl, rfl⟩
end Go.Proofs.Qxb6612581a
