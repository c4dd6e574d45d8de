import Derived.Test.Qxb6609157aRows
import Derived.WalkKit
import Derived.WalkSpells
import Derived.WalkLawsBesides
import Derived.WideMake
import Derived.Maps.RangeRun
set_option linter.unusedVariables false
namespace Go.Proofs.Qxb6609157a
open Go.RowKit Go.ChangeMaps

theorem set_last (w : World) (o o' : Obj) : ({ w.alloc o with heap := (w.alloc o).heap.setIfInBounds w.heap.size o' } : World) = w.alloc o' := by
  have e : (w.heap.push o).setIfInBounds w.heap.size o' = w.heap.push o' := by
    apply Array.toList_inj.1; simp
  show ({ w with heap := (w.heap.push o).setIfInBounds w.heap.size o' } : World) = { w with heap := w.heap.push o' }
  rw [e]

/-- the first entry of a new map -/
theorem ins_first (w : World) (k : ByteArray) (v : Value) :
    (Instr.mapUpdate 25 (.map (some w.heap.size)) (.string k) v).run Try.prog (w.alloc (.map #[] 0)) = .ok () (w.alloc (.map #[{ key := .string k, val := v, born := 0 }] 1)) := by
  rw [run_mapUpdate_first (P := Try.prog) _ 25 9 20 w.heap.size 0 k v Try.underlying25 Try.underlying9 (heap_alloc_new w _), set_last]

theorem bytes_same (a : ByteArray) : (a == a) = true := (MapKept.bytes_beq a a).2 rfl
theorem bytes_diff {a b : ByteArray} (h : a ≠ b) : (a == b) = false := by
  cases e : a == b with
  | false => rfl
  | true => exact absurd ((MapKept.bytes_beq a b).1 e) h

/-- a second store at the same key -/
theorem ins_same (w : World) (k : ByteArray) (v v' : Value) :
    (Instr.mapUpdate 25 (.map (some w.heap.size)) (.string k) v').run Try.prog (w.alloc (.map #[{ key := .string k, val := v, born := 0 }] 1)) = .ok () (w.alloc (.map #[{ key := .string k, val := v', born := 0 }] 1)) := by
  have hb := heap_alloc_new w (.map #[{ key := .string k, val := v, born := 0 }] 1)
  have hf : Instr.findNow .string (.string k) (#[({ key := .string k, val := v, born := 0 } : MapEntry)].toList) 0 = some (some (0, v)) := by
    simp [Instr.findNow, Instr.sameNow, bytes_same]
  have hc : (Instr.checkKey false 10000 9 (.string k)).run Try.prog (w.alloc (.map #[{ key := .string k, val := v, born := 0 }] 1)) = .ok () (w.alloc (.map #[{ key := .string k, val := v, born := 0 }] 1)) := MapKept.run_checkKey (k := .string k) Try.underlying9 (by simp [MapKept.IsKey]) false 9999
  have hs : Instr.sameBits 10000 (.string k) (.string k) = true := by simp [Instr.sameBits, bytes_same]
  simp only [Instr.mapUpdate, Sem.run_bind, run_underlying Try.underlying25, MapKept.run_getObj_map hb, hc, MapKept.run_findKey Try.underlying9 hf, Result.andThen]
  simp [Instr.keyThatStays, hs, MapKept.run_setObj_map _ hb]
  exact set_last w _ _

/-- a second key -/
theorem ins_second (w : World) (k k' : ByteArray) (v v' : Value) (hne : k' ≠ k) :
    (Instr.mapUpdate 25 (.map (some w.heap.size)) (.string k') v').run Try.prog (w.alloc (.map #[{ key := .string k, val := v, born := 0 }] 1)) = .ok () (w.alloc (.map #[{ key := .string k, val := v, born := 0 }, { key := .string k', val := v', born := 1 }] 2)) := by
  have hb := heap_alloc_new w (.map #[{ key := .string k, val := v, born := 0 }] 1)
  have hf : Instr.findNow .string (.string k') (#[({ key := .string k, val := v, born := 0 } : MapEntry)].toList) 0 = some none := by
    simp [Instr.findNow, Instr.sameNow, bytes_diff hne]
  have hc : (Instr.checkKey false 10000 9 (.string k')).run Try.prog (w.alloc (.map #[{ key := .string k, val := v, born := 0 }] 1)) = .ok () (w.alloc (.map #[{ key := .string k, val := v, born := 0 }] 1)) := MapKept.run_checkKey (k := .string k') Try.underlying9 (by simp [MapKept.IsKey]) false 9999
  simp only [Instr.mapUpdate, Sem.run_bind, run_underlying Try.underlying25, MapKept.run_getObj_map hb, hc, MapKept.run_findKey Try.underlying9 hf, Result.andThen]
  simp [MapKept.run_setObj_map _ hb]
  exact set_last w _ _

theorem zero20 (w : World) : (zeroValue 20).run Try.prog w = .ok .nilIface w := by kernel_rfl

/-- 'v, ok := m[k]' where it is told whether the key is there -/
theorem look {w : World} {r : Nat} {es : Array MapEntry} {clock : Nat} (hb : w.heap[r]? = some (.map es clock)) (k : ByteArray) {a : Option (Nat × Value)} (hf : Instr.findNow .string (.string k) es.toList 0 = some a) :
    (Instr.lookup 25 (.map (some r)) (.string k) true).run Try.prog w = .ok (.tuple #[(match a with | some x => x.2 | none => .nilIface), .bool a.isSome]) w := by
  have hc : (Instr.checkKey es.isEmpty 10000 9 (.string k)).run Try.prog w = .ok () w := MapKept.run_checkKey (k := .string k) Try.underlying9 (by simp [MapKept.IsKey]) _ 9999
  have hk := MapKept.run_findKey (P := Try.prog) (w := w) Try.underlying9 hf
  cases a with
  | none => simp [Instr.lookup, run_underlying Try.underlying25, MapKept.run_getObj_map hb, hc, hk]
  | some x => simp [Instr.lookup, run_underlying Try.underlying25, MapKept.run_getObj_map hb, hc, hk]

theorem len_map {w : World} {r : Nat} {es : Array MapEntry} {clock : Nat} (hb : w.heap[r]? = some (.map es clock)) :
    (Builtin.len_ #[25] 3 #[.map (some r)]).run Try.prog w = .ok (goInt es.size) w := by
  simp [Builtin.len_, run_underlying Try.underlying25, MapKept.run_getObj_map hb]
end Go.Proofs.Qxb6609157a
