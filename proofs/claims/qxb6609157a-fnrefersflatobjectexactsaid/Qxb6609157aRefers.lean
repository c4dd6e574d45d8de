import Derived.Test.Qxb6609157aMaps
import Derived.WalkKit
import Derived.WalkSpells
import Derived.WalkLawsBesides
import Derived.Deep.LoopGhost
set_option linter.unusedVariables false
namespace Go.Proofs.Qxb6609157a
open Go.RowKit Go.ChangeMaps

/-- the four bytes of the member name that marks a reference -/
def refB : ByteArray := { data := #[36, 114, 101, 102] }

theorem ta9_26 (v : Value) (w : World) : (Instr.typeAssert (.iface 9 v) 20 26 true).run Try.prog w = .ok (.tuple #[.slice none 0 0, .bool false]) w := by kernel_rfl
theorem ta9_25 (v : Value) (w : World) : (Instr.typeAssert (.iface 9 v) 20 25 true).run Try.prog w = .ok (.tuple #[.map none, .bool false]) w := by kernel_rfl
theorem ta25_26 (v : Value) (w : World) : (Instr.typeAssert (.iface 25 v) 20 26 true).run Try.prog w = .ok (.tuple #[.slice none 0 0, .bool false]) w := by kernel_rfl
theorem ta25_25 (v : Value) (w : World) : (Instr.typeAssert (.iface 25 v) 20 25 true).run Try.prog w = .ok (.tuple #[v, .bool true]) w := by kernel_rfl
theorem ta26_26 (v : Value) (w : World) : (Instr.typeAssert (.iface 26 v) 20 26 true).run Try.prog w = .ok (.tuple #[v, .bool true]) w := by kernel_rfl

set_option maxHeartbeats 400000 in
theorem refers_str (s : ByteArray) (w : World) :
    Calls Try.prog 10 #[.iface 9 (.string s)] w fun e w' => e = .returned (.bool false) ∧ w' = w := by
  have t1 := ta9_26
  have t2 := ta9_25
  go_enter Try.func10, Try.ntmps10
  go_wp2
  go_ret
  exact ⟨rfl, rfl⟩

set_option maxHeartbeats 400000 in
theorem refers_hit (r : Nat) (v : Value) (w : World) (hb : w.heap[r]? = some (.map #[{ key := .string refB, val := v, born := 0 }] 1)) :
    Calls Try.prog 10 #[.iface 25 (.map (some r))] w fun e w' => e = .returned (.bool true) ∧ w' = w := by
  have t1 := ta25_26
  have t2 := ta25_25
  have hl : (Instr.lookup 25 (.map (some r)) (.string { data := #[36, 114, 101, 102] }) true).run Try.prog w = .ok (.tuple #[v, .bool true]) w := look hb refB (a := some (0, v)) (by simp [Instr.findNow, Instr.sameNow, bytes_same])
  have hn : (Builtin.len_ #[25] 3 #[.map (some r)]).run Try.prog w = .ok (goInt 1) w := len_map hb
  clear hb
  go_enter Try.func10, Try.ntmps10
  go_wp2
  go_ret
  exact ⟨rfl, rfl⟩

theorem below_setBlock {B : Nat} {w0 w : World} {r : Nat} (hb : Below B w0 w) (hr : B ≤ r) (o : Obj) : Below B w0 (setBlock w r o) :=
  hb.trans ⟨rfl, rfl, rfl, by simp [setBlock], fun k hk => by simp only [setBlock]; rw [Array.getElem?_setIfInBounds_ne (by omega)]⟩

theorem heap_setBlock {w : World} {r : Nat} {o : Obj} (hr : r < w.heap.size) : (setBlock w r o).heap[r]? = some o := by
  simp [setBlock, hr]

theorem below_of {w w1 : World} (h : w1 = w ∨ w1 = w.drew) : Below w.heap.size w w1 := by
  rcases h with rfl | rfl
  · exact Below.refl _ _
  · exact (Below.refl _ _).drew

set_option maxHeartbeats 400000 in
/-- A map none of whose elements holds a reference, and that is none itself. -/
theorem refers_no (r clock : Nat) (es : Array MapEntry) (w : World) (hb : w.heap[r]? = some (.map es clock)) (hold : ∀ x ∈ es.toList, x.born < clock) (hnd : (es.toList.map (·.born)).Nodup)
    (lv : Value) (ok : Bool) (hl : (Instr.lookup 25 (.map (some r)) (.string { data := #[36, 114, 101, 102] }) true).run Try.prog w = .ok (.tuple #[lv, .bool ok]) w)
    (hsz : ok = true → es.size = 2)
    (hv : ∀ x ∈ es.toList, ∀ w1 : World, Below w.heap.size w w1 → Calls Try.prog 10 #[x.val] w1 fun e w2 => e = .returned (.bool false) ∧ Below w1.heap.size w1 w2) :
    Calls Try.prog 10 #[.iface 25 (.map (some r))] w fun e w' => e = .returned (.bool false) ∧ Below w.heap.size w w' := by
  have t1 := ta25_26
  have t2 := ta25_25
  have hrl : r < w.heap.size := (Array.getElem?_eq_some_iff.1 hb).1
  have hn : (Builtin.len_ #[25] 3 #[.map (some r)]).run Try.prog w = .ok (goInt es.size) w := len_map hb
  have hrg : (Instr.range 25 (.map (some r))).run Try.prog w = .ok (.pointer (some ⟨w.heap.size, 0, none⟩)) (w.alloc (.mapIter (some r) clock #[] clock)) := run_range_map w 25 9 20 r es clock Try.underlying25 hb
  have HB : Hid (w.heap[r]? = some (.map es clock)) := hb
  have HO : Hid (∀ x ∈ es.toList, x.born < clock) := hold
  have HN : Hid ((es.toList.map (·.born)).Nodup) := hnd
  have HV : Hid (∀ x ∈ es.toList, ∀ w1 : World, Below w.heap.size w w1 → Calls Try.prog 10 #[x.val] w1 fun e w2 => e = .returned (.bool false) ∧ Below w1.heap.size w1 w2) := hv
  have HS : Hid (ok = true → es.size = 2) := hsz
  clear hb hold hnd hv hsz
  go_enter Try.func10, Try.ntmps10
  cases ok with
  | true =>
    have h2 : es.size = 2 := HS.out rfl
    rw [h2] at hn
    go_wp2
    clear hl hn hrg t1 t2
    go_loopw [8] (fun _ wr => ∃ (seen : Array Nat) (c0 : Nat), wr.heap[w.heap.size]? = some (.mapIter (some r) clock seen c0) ∧ clock ≤ c0 ∧ Below w.heap.size w wr) (fun _ wr => (leftOf es (wr.iterSeen w.heap.size)).size)
    case atStart => exact ⟨#[], clock, heap_alloc_new w _, Nat.le_refl _, (Below.refl _ _).alloc (Nat.le_refl _) _⟩
    case round =>
      obtain ⟨seen, c0, hit, hc0, hB⟩ := hrel
      have hm : wr.heap[r]? = some (.map es clock) := by rw [hB.block r hrl]; exact HB.out
      have hil : w.heap.size < wr.heap.size := (Array.getElem?_eq_some_iff.1 hit).1
      have HIT : Hid (wr.heap[w.heap.size]? = some (.mapIter (some r) clock seen c0)) := hit
      have HM : Hid (wr.heap[r]? = some (.map es clock)) := hm
      rcases run_next_at (P := Try.prog) wr 0 w.heap.size r clock c0 seen es clock hit hm HO.out hc0 with ⟨hleft, hrun⟩ | ⟨e, he, w1, hw1, hrun⟩
      · clear hit hm
        go_wp2
        go_ret
        exact ⟨rfl, hB⟩
      · have hmem := mem_left he
        have hB1 : Below w.heap.size w w1 := hB.trans ((below_of hw1).mono hB.size)
        have hz1 : wr.heap.size = w1.heap.size := by rcases hw1 with rfl | rfl <;> rfl
        obtain ⟨w2, hw2⟩ : ∃ w2, setBlock w1 w.heap.size (.mapIter (some r) clock (seen.push e.born) clock) = w2 := ⟨_, rfl⟩
        rw [hw2] at hrun
        have hB2 : Below w.heap.size w w2 := by rw [← hw2]; exact below_setBlock hB1 (Nat.le_refl _) _
        have hit2 : w2.heap[w.heap.size]? = some (.mapIter (some r) clock (seen.push e.born) clock) := by rw [← hw2]; exact heap_setBlock (by omega)
        have hm2 : w2.heap[r]? = some (.map es clock) := by rw [hB2.block r hrl]; exact HB.out
        have hent := run_entry_at (P := Try.prog) w2 w.heap.size r clock seen es clock e hit2 hm2 hmem.1 HN.out
        have C := HV.out e hmem.1 w2 hB2
        have HIT2 : Hid (w2.heap[w.heap.size]? = some (.mapIter (some r) clock (seen.push e.born) clock)) := hit2
        have hil2 : w.heap.size < w2.heap.size := (Array.getElem?_eq_some_iff.1 hit2).1
        obtain ⟨ek, hek⟩ : ∃ x, e.key = x := ⟨_, rfl⟩
        obtain ⟨ev, hev⟩ : ∃ x, e.val = x := ⟨_, rfl⟩
        rw [hek, hev] at hrun hent
        rw [hev] at C
        clear hit hm hit2 hm2 hw2 hw1 hB1 hek hev
        go_wp2_with fail
        refine C.mono ?_
        rintro e' w3 ⟨rfl, hB3⟩
        clear C hrun hent
        go_wp2_with fail
        go_roundw
        case rel => exact ⟨seen.push e.born, clock, by rw [hB3.block _ hil2]; exact HIT2.out, Nat.le_refl _, hB2.trans (hB3.mono hB2.size)⟩
        case measure =>
          have e1 : w3.iterSeen w.heap.size = seen.push e.born := by unfold World.iterSeen; rw [hB3.block _ hil2, HIT2.out]
          have e2 : wr.iterSeen w.heap.size = seen := by unfold World.iterSeen; rw [HIT.out]
          rw [e1, e2]
          exact left_shrinks es seen e he
  | false =>
    go_wp2
    clear hl hn hrg t1 t2
    go_loopw [8] (fun _ wr => ∃ (seen : Array Nat) (c0 : Nat), wr.heap[w.heap.size]? = some (.mapIter (some r) clock seen c0) ∧ clock ≤ c0 ∧ Below w.heap.size w wr) (fun _ wr => (leftOf es (wr.iterSeen w.heap.size)).size)
    case atStart => exact ⟨#[], clock, heap_alloc_new w _, Nat.le_refl _, (Below.refl _ _).alloc (Nat.le_refl _) _⟩
    case round =>
      obtain ⟨seen, c0, hit, hc0, hB⟩ := hrel
      have hm : wr.heap[r]? = some (.map es clock) := by rw [hB.block r hrl]; exact HB.out
      have hil : w.heap.size < wr.heap.size := (Array.getElem?_eq_some_iff.1 hit).1
      have HIT : Hid (wr.heap[w.heap.size]? = some (.mapIter (some r) clock seen c0)) := hit
      have HM : Hid (wr.heap[r]? = some (.map es clock)) := hm
      rcases run_next_at (P := Try.prog) wr 0 w.heap.size r clock c0 seen es clock hit hm HO.out hc0 with ⟨hleft, hrun⟩ | ⟨e, he, w1, hw1, hrun⟩
      · clear hit hm
        go_wp2
        go_ret
        exact ⟨rfl, hB⟩
      · have hmem := mem_left he
        have hB1 : Below w.heap.size w w1 := hB.trans ((below_of hw1).mono hB.size)
        have hz1 : wr.heap.size = w1.heap.size := by rcases hw1 with rfl | rfl <;> rfl
        obtain ⟨w2, hw2⟩ : ∃ w2, setBlock w1 w.heap.size (.mapIter (some r) clock (seen.push e.born) clock) = w2 := ⟨_, rfl⟩
        rw [hw2] at hrun
        have hB2 : Below w.heap.size w w2 := by rw [← hw2]; exact below_setBlock hB1 (Nat.le_refl _) _
        have hit2 : w2.heap[w.heap.size]? = some (.mapIter (some r) clock (seen.push e.born) clock) := by rw [← hw2]; exact heap_setBlock (by omega)
        have hm2 : w2.heap[r]? = some (.map es clock) := by rw [hB2.block r hrl]; exact HB.out
        have hent := run_entry_at (P := Try.prog) w2 w.heap.size r clock seen es clock e hit2 hm2 hmem.1 HN.out
        have C := HV.out e hmem.1 w2 hB2
        have HIT2 : Hid (w2.heap[w.heap.size]? = some (.mapIter (some r) clock (seen.push e.born) clock)) := hit2
        have hil2 : w.heap.size < w2.heap.size := (Array.getElem?_eq_some_iff.1 hit2).1
        obtain ⟨ek, hek⟩ : ∃ x, e.key = x := ⟨_, rfl⟩
        obtain ⟨ev, hev⟩ : ∃ x, e.val = x := ⟨_, rfl⟩
        rw [hek, hev] at hrun hent
        rw [hev] at C
        clear hit hm hit2 hm2 hw2 hw1 hB1 hek hev
        go_wp2_with fail
        refine C.mono ?_
        rintro e' w3 ⟨rfl, hB3⟩
        clear C hrun hent
        go_wp2_with fail
        go_roundw
        case rel => exact ⟨seen.push e.born, clock, by rw [hB3.block _ hil2]; exact HIT2.out, Nat.le_refl _, hB2.trans (hB3.mono hB2.size)⟩
        case measure =>
          have e1 : w3.iterSeen w.heap.size = seen.push e.born := by unfold World.iterSeen; rw [hB3.block _ hil2, HIT2.out]
          have e2 : wr.iterSeen w.heap.size = seen := by unfold World.iterSeen; rw [HIT.out]
          rw [e1, e2]
          exact left_shrinks es seen e he
end Go.Proofs.Qxb6609157a
