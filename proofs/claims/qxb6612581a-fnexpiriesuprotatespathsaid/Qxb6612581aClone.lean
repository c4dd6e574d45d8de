import Derived.Test.Qxb6612581aTags
import Derived.WalkKit
import Derived.WalkSpells
import Derived.WalkLawsBesides
import Derived.Laws.CopyOwn
set_option linter.unusedVariables false
namespace Go.Proofs.Qxb6612581a
open Go.RowKit

theorem Try.size2 : (Try.prog.info? 2).map (·.size) = some 1 := by kernel_rfl

set_option maxHeartbeats 400000 in
theorem clone_nil (w : World) :
    Calls Try.prog 9 #[.slice none 0 0] w fun e w' => e = .returned (.slice none 0 0) ∧ w' = w := by
  have h1 := fun w => Lib.run_eql_slice_nil (P := Try.prog) w 22 2 none 0 0 0 0 Try.underlying22
  go_enter Try.func9, Try.ntmps9
  go_wp2
  go_ret
  exact ⟨rfl, rfl⟩

theorem Row.of_heap {w : World} {g n : Nat} {t : TypeId} {cs : List Value} (h : w.heap[g]? = some (.cells cs.toArray t (0, 0))) (hl : cs.length = n) {V : Nat → Value} (hV : ∀ i, i < n → cs[i]? = some (V i)) : Row w g n V n := by
  have hc : ∀ i, i < n → w.cell? ⟨g, i, none⟩ = some (V i) := fun i hi => by rw [cell_of_row w g i _ t _ h]; simpa using hV i hi
  refine ⟨hc, fun i hi => ⟨_, hc i hi⟩, fun i _ => ?_⟩
  unfold World.frozen?; rw [h]; simp

set_option maxHeartbeats 400000 in
theorem clone_some (w : World) (x : Addr) (n cap : Nat) (zs : List Int) (hn : n ≤ 65536) (hz : n ≤ zs.length)
   (hc : ∀ i, i < zs.length → w.cell? (x.add i) = some (.int .i64 (zs.getD i 0))) :
    Calls Try.prog 9 #[.slice (some x) n cap] w fun e w' => ∃ g, e = .returned (.slice (some ⟨g, 0, none⟩) n n) ∧ w.heap.size ≤ g ∧ g < w'.heap.size ∧ Row w' g n (fun i => .int .i64 (zs.getD i 0)) n ∧ Below w.heap.size w w' := by
  have h1 := fun w => Lib.run_eql_slice_nil (P := Try.prog) w 22 2 (some x) n cap 0 0 Try.underlying22
  have hmk := run_make_row' (P := Try.prog) 22 2 (.int .i64 0) 8 Try.underlying22 Try.info2 rfl .i64 .i64 n (by omega) (by omega)
  obtain ⟨cs, hcs, hlen⟩ : ∃ cs : List Value, Hid (∀ i, i < n → cs[i]? = some (.int .i64 (zs.getD i 0))) ∧ Hid (cs.length = n) :=
    ⟨(List.range n).map fun i => .int .i64 (zs.getD i 0), fun i hi => by simp [hi], by simp [Hid]⟩
  have g1 : Hid ((w.alloc (.cells (madeCells #[.int .i64 0] n) 2)).heap[w.heap.size]? = some (.cells (List.replicate n (Value.int .i64 0)).toArray 2 (0, 0))) := by
    show _ = _
    have e : (List.replicate n (Value.int .i64 0)).toArray = madeCells #[.int .i64 0] n := by rw [← toList_madeCells_one]
    rw [e]; exact heap_alloc_new w _
  have g2 : Hid (cs.length = Nat.min n n) := by show _ = _; rw [hlen.out]; exact (Nat.min_self n).symm
  have g3 : Hid (0 < cs.length → some (⟨w.heap.size, 0, none⟩ : Addr) = some ⟨w.heap.size, 0, none⟩ ∧ ∃ ad, some x = some ad ∧ ∀ j v, cs[j]? = some v → (w.alloc (.cells (madeCells #[.int .i64 0] n) 2)).cell? (ad.add j) = some v) := by
    intro _
    refine ⟨rfl, x, rfl, fun j v hv => ?_⟩
    have hj : j < n := by have := (List.getElem?_eq_some_iff.1 hv).1; rw [hlen.out] at this; exact this
    have hv' := hcs.out j hj
    rw [hv'] at hv; injection hv with hv; subst hv
    have hcell := hc j (by omega)
    rw [World.cell?_alloc_lt _ _ _ (block_lt_of_cell hcell)]; exact hcell
  have g4 : Hid (0 + cs.length ≤ (List.replicate n (Value.int .i64 0)).length) := by show _ ≤ _; rw [hlen.out]; simp
  have g5 : Hid (∀ v ∈ cs, v.oneCell' = true) := by
    intro v hv
    obtain ⟨i, hi, rfl⟩ := List.getElem_of_mem hv
    have := hcs.out i (by rw [← hlen.out]; exact hi)
    rw [List.getElem?_eq_getElem hi] at this; injection this with this; rw [this]; rfl
  have g6 : Hid (Below w.heap.size w (w.alloc (.cells (madeCells #[.int .i64 0] n) 2))) := (Below.refl _ _).alloc (Nat.le_refl _) _
  clear hc
  go_enter Try.func9, Try.ntmps9
  go_wp2_with (refine wpList_copy_splice (by rfl) (.tmp 9) (.tmp 10) 22 22 (by rfl) 2 Try.underlying22 Try.size2 (some ⟨w.heap.size, 0, none⟩) (some x) n n n cap (by rfl) (by rfl) w.heap.size 0 (List.replicate n (.int .i64 0)) 2 g1 cs g2 g3 g4 g5 w.heap.size w g6 (Nat.le_refl _) ?_)
  intro w1 HG HB
  have hr : Row w1 w.heap.size n (fun i => .int .i64 (zs.getD i 0)) n := by
    have e : splice (List.replicate n (Value.int .i64 0)) 0 cs = cs := by unfold splice; simp [hlen.out]
    rw [e] at HG
    exact Row.of_heap HG.out hlen.out hcs.out
  have hz1 : w.heap.size < w1.heap.size := by
    rcases Nat.lt_or_ge w.heap.size w1.heap.size with h | h
    · exact h
    · have := HG.out; rw [Array.getElem?_eq_none h] at this; cases this
  clear g1 g2 g3 g4 g5 g6 HG h1 hmk hcs hlen
  go_wp2
  go_ret
  exact ⟨_, rfl, Nat.le_refl _, hz1, hr, HB⟩
end Go.Proofs.Qxb6612581a
