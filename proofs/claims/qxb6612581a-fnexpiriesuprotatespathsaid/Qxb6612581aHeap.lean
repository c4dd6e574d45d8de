import Derived.Test.Qxb6612581aTime
import Derived.WalkKit
import Derived.WalkSpells
import Derived.WalkLawsBesides
import Derived.StillTailTactics
import Derived.BigRegion
import Derived.BigQuiet
import Derived.Deep.QuietTactic
set_option linter.unusedVariables false
namespace Go.Proofs.Qxb6612581a
open Go.RowKit

set_option maxHeartbeats 400000 in
set_option maxRecDepth 100000 in
theorem before_any (eb hb n i j bi bj : Nat) (ki kj : Int) (w : World)
    (he : w.cell? ⟨eb, 0, none⟩ = some (.slice (some ⟨hb, 0, none⟩) n n))
    (hi : w.cell? ⟨hb, i, none⟩ = some (.pointer (some ⟨bi, 0, none⟩)))
    (hj : w.cell? ⟨hb, j, none⟩ = some (.pointer (some ⟨bj, 0, none⟩)))
    (i7 : w.cell? ⟨bi, 7, none⟩ = some (.int .u64 (ki % 1000000000))) (i8 : w.cell? ⟨bi, 8, none⟩ = some (.int .i64 (ki / 1000000000))) (i9 : w.cell? ⟨bi, 9, none⟩ = some (.pointer none))
    (j7 : w.cell? ⟨bj, 7, none⟩ = some (.int .u64 (kj % 1000000000))) (j8 : w.cell? ⟨bj, 8, none⟩ = some (.int .i64 (kj / 1000000000))) (j9 : w.cell? ⟨bj, 9, none⟩ = some (.pointer none))
    (hin : (i : Int) < n) (hjn : (j : Int) < n) (hn : n ≤ 65536) :
    Calls Try.prog 38 #[.pointer (some ⟨eb, 0, none⟩), .int .i64 i, .int .i64 j] w fun e w' => e = .returned (.bool (decide (ki < kj))) ∧ Below w.heap.size w w' := by
  have p1 : (0 : Int) ≤ (i : Int) := by omega
  have p2 : (0 : Int) ≤ (j : Int) := by omega
  go_enter Try.func38, Try.ntmps38
  go_wp2_with fail
  go_still_tail 20, (by kernel_rfl)
  go_wp2_with (go_at_call 43; refine (before_time ki kj _).mono ?_; rintro e w' ⟨rfl, hbw⟩)
  go_ret
  exact ⟨rfl, (Below.refl _ _).drew.trans hbw⟩

theorem co {w : World} {b o b' o' : Nat} {v : Value} (h : b ≠ b' ∨ o ≠ o') : (w.setCell ⟨b, o, none⟩ v).cell? ⟨b', o', none⟩ = w.cell? ⟨b', o', none⟩ :=
  World.cell?_setCell_other _ _ _ _ (by intro e; injection e; omega)
theorem cs {w : World} {b o : Nat} {u v : Value} (h : w.cell? ⟨b, o, none⟩ = some u) : (w.setCell ⟨b, o, none⟩ v).cell? ⟨b, o, none⟩ = some v :=
  World.cell?_setCell_same _ _ _ h

set_option maxHeartbeats 1000000 in
set_option maxRecDepth 100000 in
theorem swap_any (eb hb n i j bi bj : Nat) (xi xj : Value) (w : World)
    (he : w.cell? ⟨eb, 0, none⟩ = some (.slice (some ⟨hb, 0, none⟩) n n))
    (hi : w.cell? ⟨hb, i, none⟩ = some (.pointer (some ⟨bi, 0, none⟩)))
    (hj : w.cell? ⟨hb, j, none⟩ = some (.pointer (some ⟨bj, 0, none⟩)))
    (i10 : w.cell? ⟨bi, 10, none⟩ = some xi) (j10 : w.cell? ⟨bj, 10, none⟩ = some xj)
    (fi : w.frozen? ⟨hb, i, none⟩ = false) (fj : w.frozen? ⟨hb, j, none⟩ = false) (gi : w.frozen? ⟨bi, 10, none⟩ = false) (gj : w.frozen? ⟨bj, 10, none⟩ = false)
    (hin : (i : Int) < n) (hjn : (j : Int) < n) (hn : n ≤ 65536) (hij : i ≠ j) (n1 : eb ≠ hb) (n2 : bi ≠ bj) (n3 : hb ≠ bi) (n4 : hb ≠ bj) :
    Calls Try.prog 39 #[.pointer (some ⟨eb, 0, none⟩), .int .i64 i, .int .i64 j] w fun e w' => e = .returned (.tuple #[]) ∧
      w' = ((((w.setCell ⟨hb, i, none⟩ (.pointer (some ⟨bj, 0, none⟩))).setCell ⟨hb, j, none⟩ (.pointer (some ⟨bi, 0, none⟩))).setCell ⟨bj, 10, none⟩ (.int .i64 i)).setCell ⟨bi, 10, none⟩ (.int .i64 j)).drew.drew := by
  have p1 : (0 : Int) ≤ (i : Int) := by omega
  have p2 : (0 : Int) ≤ (j : Int) := by omega
  go_enter Try.func39, Try.ntmps39
  go_wp2_with fail
  go_region
  obtain ⟨wq, hwq⟩ : ∃ wq, ((w.setCell ⟨hb, i, none⟩ (.pointer (some ⟨bj, 0, none⟩))).setCell ⟨hb, j, none⟩ (.pointer (some ⟨bi, 0, none⟩))).drew = wq := ⟨_, rfl⟩
  rw [hwq]
  have qe : wq.cell? ⟨eb, 0, none⟩ = some (.slice (some ⟨hb, 0, none⟩) n n) := by rw [← hwq, World.cell?_drew, co (.inl (by omega)), co (.inl (by omega))]; exact he
  have qi : wq.cell? ⟨hb, i, none⟩ = some (.pointer (some ⟨bj, 0, none⟩)) := by rw [← hwq, World.cell?_drew, co (.inr (by omega)), cs hi]
  have qj : wq.cell? ⟨hb, j, none⟩ = some (.pointer (some ⟨bi, 0, none⟩)) := by rw [← hwq, World.cell?_drew, cs (u := .pointer (some ⟨bj, 0, none⟩)) (by rw [co (.inr (by omega))]; exact hj)]
  have q1 : wq.cell? ⟨bi, 10, none⟩ = some xi := by rw [← hwq, World.cell?_drew, co (.inl (by omega)), co (.inl (by omega))]; exact i10
  have q2 : wq.cell? ⟨bj, 10, none⟩ = some xj := by rw [← hwq, World.cell?_drew, co (.inl (by omega)), co (.inl (by omega))]; exact j10
  have q3 : wq.frozen? ⟨bi, 10, none⟩ = false := by rw [← hwq, World.frozen?_drew, World.frozen?_setCell, World.frozen?_setCell]; exact gi
  have q4 : wq.frozen? ⟨bj, 10, none⟩ = false := by rw [← hwq, World.frozen?_drew, World.frozen?_setCell, World.frozen?_setCell]; exact gj
  clear he hi hj i10 j10 fi fj gi gj
  go_wp2_with fail
  go_region
  go_wp2
  go_end0
  subst hwq
  exact ⟨rfl, rfl⟩
end Go.Proofs.Qxb6612581a
