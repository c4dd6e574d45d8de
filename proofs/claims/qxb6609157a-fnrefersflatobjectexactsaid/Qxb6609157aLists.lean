import Derived.Test.Qxb6609157aRefers
import Derived.WalkKit
import Derived.WalkSpells
import Derived.WalkLawsBesides
set_option linter.unusedVariables false
namespace Go.Proofs.Qxb6609157a
open Go.RowKit Go.ChangeMaps

set_option maxHeartbeats 400000 in
/-- A map of one member, not named so, whose element holds a reference. -/
theorem refers_in (r : Nat) (k : ByteArray) (v : Value) (w : World) (hb : w.heap[r]? = some (.map #[{ key := .string k, val := v, born := 0 }] 1)) (hk : refB ≠ k)
    (hv : ∀ w1 : World, Below w.heap.size w w1 → Calls Try.prog 10 #[v] w1 fun e w2 => e = .returned (.bool true) ∧ Below w1.heap.size w1 w2) :
    Calls Try.prog 10 #[.iface 25 (.map (some r))] w fun e w' => e = .returned (.bool true) ∧ Below w.heap.size w w' := by
  have t1 := ta25_26
  have t2 := ta25_25
  have hrl : r < w.heap.size := (Array.getElem?_eq_some_iff.1 hb).1
  have hl : (Instr.lookup 25 (.map (some r)) (.string { data := #[36, 114, 101, 102] }) true).run Try.prog w = .ok (.tuple #[.nilIface, .bool false]) w := look hb refB (a := none) (by simp [Instr.findNow, Instr.sameNow, bytes_diff hk])
  have hrg : (Instr.range 25 (.map (some r))).run Try.prog w = .ok (.pointer (some ⟨w.heap.size, 0, none⟩)) (w.alloc (.mapIter (some r) 1 #[] 1)) := run_range_map w 25 9 20 r _ 1 Try.underlying25 hb
  obtain ⟨es, hes⟩ : ∃ es : Array MapEntry, #[({ key := .string k, val := v, born := 0 } : MapEntry)] = es := ⟨_, rfl⟩
  have HO : Hid (∀ x ∈ es.toList, x.born < 1) := by rw [← hes]; intro x hx; simp at hx; subst hx; exact Nat.zero_lt_one
  have HN : Hid ((es.toList.map (·.born)).Nodup) := by show List.Nodup _; rw [← hes]; simp
  have HE : Hid (∀ x ∈ es.toList, x.val = v) := by rw [← hes]; intro x hx; simp at hx; subst hx; rfl
  have HL : Hid ((leftOf es #[]).size ≠ 0) := by show _ ≠ _; rw [← hes]; simp [leftOf]
  rw [hes] at hb
  have HB : Hid (w.heap[r]? = some (.map es 1)) := hb
  have HV : Hid (∀ w1 : World, Below w.heap.size w w1 → Calls Try.prog 10 #[v] w1 fun e w2 => e = .returned (.bool true) ∧ Below w1.heap.size w1 w2) := hv
  clear hb hv hes
  go_enter Try.func10, Try.ntmps10
  go_wp2
  clear hl hrg t1 t2
  go_loopw [8] (fun _ wr => wr.heap[w.heap.size]? = some (.mapIter (some r) 1 #[] 1) ∧ Below w.heap.size w wr) (fun _ _ => 0)
  case atStart => exact ⟨heap_alloc_new w _, (Below.refl _ _).alloc (Nat.le_refl _) _⟩
  case round =>
    obtain ⟨hit, hB⟩ := hrel
    have hm : wr.heap[r]? = some (.map es 1) := by rw [hB.block r hrl]; exact HB.out
    have hil : w.heap.size < wr.heap.size := (Array.getElem?_eq_some_iff.1 hit).1
    rcases run_next_at (P := Try.prog) wr 0 w.heap.size r 1 1 #[] es 1 hit hm HO.out (Nat.le_refl _) with ⟨hleft, hrun⟩ | ⟨e, he, w1, hw1, hrun⟩
    · exact absurd hleft HL.out
    · have hmem := mem_left he
      have hB1 : Below w.heap.size w w1 := hB.trans ((below_of hw1).mono hB.size)
      have hz1 : wr.heap.size = w1.heap.size := by rcases hw1 with rfl | rfl <;> rfl
      obtain ⟨w2, hw2⟩ : ∃ w2, setBlock w1 w.heap.size (.mapIter (some r) 1 ((#[] : Array Nat).push e.born) 1) = w2 := ⟨_, rfl⟩
      rw [hw2] at hrun
      have hB2 : Below w.heap.size w w2 := by rw [← hw2]; exact below_setBlock hB1 (Nat.le_refl _) _
      have hit2 : w2.heap[w.heap.size]? = some (.mapIter (some r) 1 ((#[] : Array Nat).push e.born) 1) := by rw [← hw2]; exact heap_setBlock (by omega)
      have hm2 : w2.heap[r]? = some (.map es 1) := by rw [hB2.block r hrl]; exact HB.out
      have hent := run_entry_at (P := Try.prog) w2 w.heap.size r 1 #[] es 1 e hit2 hm2 hmem.1 HN.out
      have C := HV.out w2 hB2
      obtain ⟨ek, hek⟩ : ∃ x, e.key = x := ⟨_, rfl⟩
      rw [hek, HE.out e hmem.1] at hrun hent
      clear hit hm hit2 hm2 hw2 hw1 hB1 hek
      go_wp2_with fail
      refine C.mono ?_
      rintro e' w3 ⟨rfl, hB3⟩
      clear C hrun hent
      go_wp2_with fail
      go_ret
      exact ⟨rfl, hB2.trans (hB3.mono hB2.size)⟩

/-- A map of one member whose element is asked: the answer. -/
theorem refers_one (r : Nat) (k : ByteArray) (v : Value) (b : Bool) (w : World) (hb : w.heap[r]? = some (.map #[{ key := .string k, val := v, born := 0 }] 1))
    (hv : ∀ w1 : World, Below w.heap.size w w1 → Calls Try.prog 10 #[v] w1 fun e w2 => e = .returned (.bool b) ∧ Below w1.heap.size w1 w2) :
    Calls Try.prog 10 #[.iface 25 (.map (some r))] w fun e w' => e = .returned (.bool (k == refB || b)) ∧ Below w.heap.size w w' := by
  by_cases hk : refB = k
  · subst hk
    rw [bytes_same, Bool.true_or]
    refine (refers_hit r v w hb).mono ?_
    rintro e w' ⟨rfl, rfl⟩
    exact ⟨rfl, Below.refl _ _⟩
  · rw [bytes_diff (Ne.symm hk), Bool.false_or]
    cases b with
    | true => exact refers_in r k v w hb hk hv
    | false =>
      refine refers_no r 1 _ w hb ?_ ?_ .nilIface false (look hb refB (a := none) (by simp [Instr.findNow, Instr.sameNow, bytes_diff hk])) (fun h => by cases h) ?_
      · intro x hx; simp at hx; subst hx; exact Nat.zero_lt_one
      · simp
      · intro x hx; simp at hx; subst hx; exact hv

theorem refers_str' (s : ByteArray) (w0 : World) : ∀ w1 : World, Below w0.heap.size w0 w1 → Calls Try.prog 10 #[.iface 9 (.string s)] w1 fun e w2 => e = .returned (.bool false) ∧ Below w1.heap.size w1 w2 := by
  intro w1 _
  refine (refers_str s w1).mono ?_
  rintro e w' ⟨rfl, rfl⟩
  exact ⟨rfl, Below.refl _ _⟩

/-- Two members, both strings: no reference. -/
theorem refers_two (r : Nat) (k k' v v' : ByteArray) (w : World) (hb : w.heap[r]? = some (.map #[{ key := .string k, val := .iface 9 (.string v), born := 0 }, { key := .string k', val := .iface 9 (.string v'), born := 1 }] 2)) :
    Calls Try.prog 10 #[.iface 25 (.map (some r))] w fun e w' => e = .returned (.bool false) ∧ Below w.heap.size w w' := by
  have hf : ∃ a, Instr.findNow .string (.string refB) (#[({ key := .string k, val := .iface 9 (.string v), born := 0 } : MapEntry), { key := .string k', val := .iface 9 (.string v'), born := 1 }].toList) 0 = some a := by
    by_cases h1 : refB = k
    · subst h1; exact ⟨_, by simp [Instr.findNow, Instr.sameNow, bytes_same]; rfl⟩
    · by_cases h2 : refB = k'
      · subst h2; exact ⟨_, by simp [Instr.findNow, Instr.sameNow, bytes_same, bytes_diff h1]; rfl⟩
      · exact ⟨_, by simp [Instr.findNow, Instr.sameNow, bytes_diff h1, bytes_diff h2]; rfl⟩
  obtain ⟨a, hf⟩ := hf
  refine refers_no r 2 _ w hb ?_ ?_ _ a.isSome (look hb refB hf) (fun _ => rfl) ?_
  · intro x hx; simp at hx; rcases hx with rfl | rfl <;> simp
  · simp
  · intro x hx; simp at hx; rcases hx with rfl | rfl <;> exact refers_str' _ w
end Go.Proofs.Qxb6609157a
