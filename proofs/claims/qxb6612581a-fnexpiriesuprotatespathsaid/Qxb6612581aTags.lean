import Derived.Test.Qxb6612581aUp
import Derived.WalkKit
import Derived.WalkSpells
import Derived.WalkLawsBesides
import Derived.Deep.OwnRows
set_option linter.unusedVariables false
namespace Go.Proofs.Qxb6612581a
open Go.RowKit

theorem Try.info2 : (Try.prog.info? 2).map (fun i => (i.zero, i.size, i.bytes)) = some (some (.int .i64 0), 1, 8) := by kernel_rfl
theorem Try.info3 : (Try.prog.info? 3).map (fun i => (i.zero, i.size, i.bytes)) = some (some (.int .i64 0), 1, 8) := by kernel_rfl

/-- a row of n cells at block g, not frozen, the first k of them told -/
def Row (w : World) (g n : Nat) (V : Nat → Value) (k : Nat) : Prop :=
  (∀ i, i < k → w.cell? ⟨g, i, none⟩ = some (V i)) ∧ (∀ i, i < n → ∃ v, w.cell? ⟨g, i, none⟩ = some v) ∧ (∀ i, i < n → w.frozen? ⟨g, i, none⟩ = false)

theorem Row.set {w : World} {g n : Nat} {V : Nat → Value} {k : Nat} (h : Row w g n V k) (hk : k < n) {v : Value} (hv : v = V k) : Row (w.setCell ⟨g, k, none⟩ v) g n V (k + 1) := by
  obtain ⟨h1, h2, h3⟩ := h
  obtain ⟨u, hu⟩ := h2 k hk
  refine ⟨fun i hi => ?_, fun i hi => ?_, fun i hi => ?_⟩
  · by_cases e : i = k
    · subst e; rw [cs hu, hv]
    · rw [co (.inr (by omega))]; exact h1 i (by omega)
  · by_cases e : i = k
    · subst e; exact ⟨v, cs hu⟩
    · rw [co (.inr (by omega))]; exact h2 i hi
  · rw [World.frozen?_setCell]; exact h3 i hi

theorem Row.made (w : World) (z : Value) (n : Nat) (t : TypeId) (V : Nat → Value) : Row (w.alloc (.cells (madeCells #[z] n) t)) w.heap.size n V 0 := by
  refine ⟨fun i hi => absurd hi (by omega), fun i hi => ⟨z, ?_⟩, fun i hi => ?_⟩
  · rw [World.cell?_alloc_new]
    have e := toList_madeCells_one z n
    rw [← Array.getElem?_toList, e]; simp [hi]
  · simp

theorem Row.below {w w' : World} {g n : Nat} {V : Nat → Value} {k : Nat} (h : Row w g n V k) (hb : Below w.heap.size w w') (hg : g < w.heap.size) : Row w' g n V k := by
  refine ⟨fun i hi => ?_, fun i hi => ?_, fun i hi => ?_⟩
  · rw [hb.cell hg]; exact h.1 i hi
  · rw [hb.cell hg]; exact h.2.1 i hi
  · rw [hb.frozen hg]; exact h.2.2 i hi

set_option maxHeartbeats 400000 in
theorem tags_any (w : World) (B eb hb n : Nat) (P T : Nat → Nat) (K : Nat → Int) (h : Ex w B eb hb n P T K) (hn : n ≤ 65536) :
    Calls Try.prog 12 #[.pointer (some ⟨eb, 0, none⟩)] w fun e w' => ∃ g, e = .returned (.slice (some ⟨g, 0, none⟩) n n) ∧ w.heap.size ≤ g ∧ g < w'.heap.size ∧ Row w' g n (fun i => .int .i64 (T i)) n ∧ Below w.heap.size w w' := by
  have hmk := run_make_row' (P := Try.prog) 22 2 (.int .i64 0) 8 Try.underlying22 Try.info2 rfl .i64 .i64 n (by omega) (by omega)
  have he := h.he
  go_enter Try.func12, Try.ntmps12
  go_wp2
  go_loopw [4] (fun iv wr => ∃ k : Nat, iv = .int .i64 k ∧ k ≤ n ∧ Below w.heap.size w wr ∧ w.heap.size < wr.heap.size ∧ Row wr w.heap.size n (fun i => .int .i64 (T i)) k) (fun iv _ => n - (intOf iv).toNat)
  case atStart => exact ⟨0, rfl, Nat.zero_le _, (Below.refl _ _).alloc (Nat.le_refl _) _, by simp, Row.made _ _ _ _ _⟩
  case round =>
    obtain ⟨k, rfl, hk, hB, hz, hR⟩ := hrel
    have hE := h.below hB
    have he1 := hE.he
    clear he hmk
    by_cases hlt : k < n
    · have c1 := hE.hold k hlt
      have c2 := hE.tag (T k) (hE.rng k hlt)
      obtain ⟨u, c3⟩ := hR.2.1 k hlt
      have c4 := hR.2.2 k hlt
      go_wp2
      go_roundw
      case rel => exact ⟨k + 1, by go_num, by omega, hB.setCell (Nat.le_refl _) _, by simpa using hz, hR.set hlt rfl⟩
      case measure => simp [intOf]; omega
    · go_wp2
      go_ret
      obtain rfl : k = n := by omega
      exact ⟨_, rfl, Nat.le_refl _, hz, hR, hB⟩

set_option maxHeartbeats 400000 in
theorem indexes_any (w : World) (B eb hb n : Nat) (P T : Nat → Nat) (K : Nat → Int) (h : Ex w B eb hb n P T K) (hn : n ≤ 65536) :
    Calls Try.prog 13 #[.pointer (some ⟨eb, 0, none⟩)] w fun e w' => ∃ g, e = .returned (.slice (some ⟨g, 0, none⟩) n n) ∧ w.heap.size ≤ g ∧ g < w'.heap.size ∧ Row w' g n (fun i => .int .i64 i) n ∧ Below w.heap.size w w' := by
  have hmk := run_make_row' (P := Try.prog) 29 3 (.int .i64 0) 8 Try.underlying29 Try.info3 rfl .i64 .i64 n (by omega) (by omega)
  have he := h.he
  go_enter Try.func13, Try.ntmps13
  go_wp2
  go_loopw [4] (fun iv wr => ∃ k : Nat, iv = .int .i64 k ∧ k ≤ n ∧ Below w.heap.size w wr ∧ w.heap.size < wr.heap.size ∧ Row wr w.heap.size n (fun i => .int .i64 i) k) (fun iv _ => n - (intOf iv).toNat)
  case atStart => exact ⟨0, rfl, Nat.zero_le _, (Below.refl _ _).alloc (Nat.le_refl _) _, by simp, Row.made _ _ _ _ _⟩
  case round =>
    obtain ⟨k, rfl, hk, hB, hz, hR⟩ := hrel
    have hE := h.below hB
    have he1 := hE.he
    clear he hmk
    by_cases hlt : k < n
    · have c1 := hE.hold k hlt
      have c2 := hE.idx k hlt
      obtain ⟨u, c3⟩ := hR.2.1 k hlt
      have c4 := hR.2.2 k hlt
      go_wp2
      go_roundw
      case rel => exact ⟨k + 1, by go_num, by omega, hB.setCell (Nat.le_refl _) _, by simpa using hz, hR.set hlt rfl⟩
      case measure => simp [intOf]; omega
    · go_wp2
      go_ret
      obtain rfl : k = n := by omega
      exact ⟨_, rfl, Nat.le_refl _, hz, hR, hB⟩

end Go.Proofs.Qxb6612581a
