import Derived.Test.Qxb6609157aLists
import Derived.WalkKit
import Derived.WalkSpells
import Derived.WalkLawsBesides
import Derived.Deep.RegionWith
import Derived.Deep.DrawnRows
set_option linter.unusedVariables false
namespace Go.Proofs.Qxb6609157a
open Go.RowKit Go.ChangeMaps
attribute [local go_sem ↓] Go.wp_at_zero Go.wp_at_succ

set_option maxHeartbeats 400000 in
theorem obj1 (k v : ByteArray) (w : World) :
    Calls Try.prog 6 #[.string k, .string v] w fun e w' => e = .returned (.bool (k == refB)) ∧ Below w.heap.size w w' := by
  have hmm := @run_makeMap Try.prog
  have h1 := ins_first w k (.iface 9 (.string v))
  have C := refers_one w.heap.size k (.iface 9 (.string v)) false (w.alloc (.map #[{ key := .string k, val := .iface 9 (.string v), born := 0 }] 1)) (heap_alloc_new w _) (refers_str' v _)
  rw [Bool.or_false] at C
  obtain ⟨b, hb⟩ : ∃ b, (k == refB) = b := ⟨_, rfl⟩
  rw [hb] at C ⊢
  clear hb
  go_enter Try.func6, Try.ntmps6
  go_wp2_with fail
  refine C.mono ?_
  rintro e w1 ⟨rfl, hB⟩
  clear C h1 hmm
  go_wp2_with fail
  go_ret
  exact ⟨rfl, ((Below.refl _ _).alloc (Nat.le_refl _) _).trans (hB.mono (by simp))⟩

set_option maxHeartbeats 1000000 in
theorem obj2_same (k v v' : ByteArray) (w : World) :
    Calls Try.prog 7 #[.string k, .string v, .string k, .string v'] w fun e w' => e = .returned (.bool (k == refB)) ∧ Below w.heap.size w w' := by
  have hmm := @run_makeMap Try.prog
  have h1 : (Instr.mapUpdate 25 (.map (some w.heap.size)) (.string k) (.iface 9 (.string v))).run Try.prog (w.alloc (.map #[] 0)).drew = .ok () (w.alloc (.map #[{ key := .string k, val := (.iface 9 (.string v)), born := 0 }] 1)).drew := ins_first w.drew k (.iface 9 (.string v))
  have h2 : (Instr.mapUpdate 25 (.map (some w.heap.size)) (.string k) (.iface 9 (.string v'))).run Try.prog (w.alloc (.map #[] 0)).drew = .ok () (w.alloc (.map #[{ key := .string k, val := (.iface 9 (.string v')), born := 0 }] 1)).drew := ins_first w.drew k (.iface 9 (.string v'))
  have h3 : (Instr.mapUpdate 25 (.map (some w.heap.size)) (.string k) (.iface 9 (.string v'))).run Try.prog (w.alloc (.map #[{ key := .string k, val := (.iface 9 (.string v)), born := 0 }] 1)).drew = .ok () (w.alloc (.map #[{ key := .string k, val := (.iface 9 (.string v')), born := 0 }] 1)).drew := ins_same w.drew k _ _
  have h4 : (Instr.mapUpdate 25 (.map (some w.heap.size)) (.string k) (.iface 9 (.string v))).run Try.prog (w.alloc (.map #[{ key := .string k, val := (.iface 9 (.string v')), born := 0 }] 1)).drew = .ok () (w.alloc (.map #[{ key := .string k, val := (.iface 9 (.string v)), born := 0 }] 1)).drew := ins_same w.drew k _ _
  have C1 := refers_one w.heap.size k (.iface 9 (.string v)) false (w.alloc (.map #[{ key := .string k, val := .iface 9 (.string v), born := 0 }] 1)).drew (heap_alloc_new w _) (refers_str' v _)
  have C2 := refers_one w.heap.size k (.iface 9 (.string v')) false (w.alloc (.map #[{ key := .string k, val := .iface 9 (.string v'), born := 0 }] 1)).drew (heap_alloc_new w _) (refers_str' v' _)
  rw [Bool.or_false] at C1 C2
  obtain ⟨b, hb⟩ : ∃ b, (k == refB) = b := ⟨_, rfl⟩
  rw [hb] at C1 C2 ⊢
  clear hb
  go_enter Try.func7, Try.ntmps7
  go_wp2_with fail
  go_region_with (go_at_call 10; first | (refine C1.mono ?_; rintro e w1 ⟨rfl, hB⟩) | (refine C2.mono ?_; rintro e w1 ⟨rfl, hB⟩))
  all_goals
    go_wp2
    go_ret
    exact ⟨rfl, ((Below.refl _ _).alloc (Nat.le_refl _) _).drew.trans (hB.mono (by simp))⟩

set_option maxHeartbeats 1000000 in
theorem obj2_diff (k k' v v' : ByteArray) (w : World) (hne : k ≠ k') :
    Calls Try.prog 7 #[.string k, .string v, .string k', .string v'] w fun e w' => e = .returned (.bool false) ∧ Below w.heap.size w w' := by
  have hmm := @run_makeMap Try.prog
  have h1 : (Instr.mapUpdate 25 (.map (some w.heap.size)) (.string k) (.iface 9 (.string v))).run Try.prog (w.alloc (.map #[] 0)).drew = .ok () (w.alloc (.map #[{ key := .string k, val := (.iface 9 (.string v)), born := 0 }] 1)).drew := ins_first w.drew k (.iface 9 (.string v))
  have h2 : (Instr.mapUpdate 25 (.map (some w.heap.size)) (.string k') (.iface 9 (.string v'))).run Try.prog (w.alloc (.map #[] 0)).drew = .ok () (w.alloc (.map #[{ key := .string k', val := (.iface 9 (.string v')), born := 0 }] 1)).drew := ins_first w.drew k' (.iface 9 (.string v'))
  have h3 : (Instr.mapUpdate 25 (.map (some w.heap.size)) (.string k') (.iface 9 (.string v'))).run Try.prog (w.alloc (.map #[{ key := .string k, val := (.iface 9 (.string v)), born := 0 }] 1)).drew = .ok () (w.alloc (.map #[{ key := .string k, val := (.iface 9 (.string v)), born := 0 }, { key := .string k', val := (.iface 9 (.string v')), born := 1 }] 2)).drew := ins_second w.drew k k' _ _ (Ne.symm hne)
  have h4 : (Instr.mapUpdate 25 (.map (some w.heap.size)) (.string k) (.iface 9 (.string v))).run Try.prog (w.alloc (.map #[{ key := .string k', val := (.iface 9 (.string v')), born := 0 }] 1)).drew = .ok () (w.alloc (.map #[{ key := .string k', val := (.iface 9 (.string v')), born := 0 }, { key := .string k, val := (.iface 9 (.string v)), born := 1 }] 2)).drew := ins_second w.drew k' k _ _ hne
  have C1 := refers_two w.heap.size k k' v v' (w.alloc (.map #[{ key := .string k, val := (.iface 9 (.string v)), born := 0 }, { key := .string k', val := (.iface 9 (.string v')), born := 1 }] 2)).drew (heap_alloc_new w _)
  have C2 := refers_two w.heap.size k' k v' v (w.alloc (.map #[{ key := .string k', val := (.iface 9 (.string v')), born := 0 }, { key := .string k, val := (.iface 9 (.string v)), born := 1 }] 2)).drew (heap_alloc_new w _)
  clear hne
  go_enter Try.func7, Try.ntmps7
  go_wp2_with fail
  go_region_with (go_at_call 10; first | (refine C1.mono ?_; rintro e w1 ⟨rfl, hB⟩) | (refine C2.mono ?_; rintro e w1 ⟨rfl, hB⟩))
  all_goals
    go_wp2
    go_ret
    exact ⟨rfl, ((Below.refl _ _).alloc (Nat.le_refl _) _).drew.trans (hB.mono (by simp))⟩

theorem obj2 (k v k' v' : ByteArray) (w : World) :
    Calls Try.prog 7 #[.string k, .string v, .string k', .string v'] w fun e w' => e = .returned (.bool (k == refB && k' == refB)) ∧ Below w.heap.size w w' := by
  by_cases h : k = k'
  · subst h
    rw [Bool.and_self]
    exact obj2_same k v v' w
  · have : (k == refB && k' == refB) = false := by
      by_cases h1 : k = refB
      · subst h1; rw [bytes_diff (Ne.symm h), Bool.and_false]
      · rw [bytes_diff h1, Bool.false_and]
    rw [this]
    exact obj2_diff k k' v v' w h

/-! ### the list -/
set_option maxHeartbeats 400000 in
theorem index_any (b : Nat) (x0 x1 : Value) (b1 : Bool) (w : World) (c0 : w.cell? ⟨b, 0, none⟩ = some x0) (c1 : w.cell? ⟨b, 1, none⟩ = some x1)
    (h0 : ∀ w1 : World, Below w.heap.size w w1 → Calls Try.prog 10 #[x0] w1 fun e w2 => e = .returned (.bool false) ∧ Below w1.heap.size w1 w2)
    (h1 : ∀ w1 : World, Below w.heap.size w w1 → Calls Try.prog 10 #[x1] w1 fun e w2 => e = .returned (.bool b1) ∧ Below w1.heap.size w1 w2) :
    Calls Try.prog 12 #[.slice (some ⟨b, 0, none⟩) 2 2, .func (.func 10) #[] #[]] w fun e w' => e = .returned (.int .i64 (if b1 then 1 else -1)) ∧ Below w.heap.size w w' := by
  have HH0 : Hid (∀ w1 : World, Below w.heap.size w w1 → Calls Try.prog 10 #[x0] w1 fun e w2 => e = .returned (.bool false) ∧ Below w1.heap.size w1 w2) := h0
  have HH1 : Hid (∀ w1 : World, Below w.heap.size w w1 → Calls Try.prog 10 #[x1] w1 fun e w2 => e = .returned (.bool b1) ∧ Below w1.heap.size w1 w2) := h1
  have HC0 : Hid (w.cell? ⟨b, 0, none⟩ = some x0) := c0
  have HC1 : Hid (w.cell? ⟨b, 1, none⟩ = some x1) := c1
  have hbl : b < w.heap.size := block_lt_of_cell c0
  clear h0 h1 c0 c1
  go_enter Try.func12, Try.ntmps12
  go_wp2_with fail
  go_loopw [8] (fun iv wr => Below w.heap.size w wr ∧ (iv = .int .i64 0 ∨ iv = .int .i64 1 ∨ (iv = .int .i64 2 ∧ b1 = false))) (fun iv _ => 2 - (intOf iv).toNat)
  case atStart => exact ⟨Below.refl _ _, .inl rfl⟩
  case round =>
    obtain ⟨hB, hcase⟩ := hrel
    rcases hcase with rfl | rfl | ⟨rfl, rfl⟩
    · have C := HH0.out wr hB
      have d0 : wr.cell? ⟨b, 0, none⟩ = some x0 := by rw [hB.cell hbl]; exact HC0.out
      go_wp2_with fail
      refine C.mono ?_
      rintro e w3 ⟨rfl, hB3⟩
      clear C
      go_wp2_with fail
      go_roundw
      case rel => exact ⟨hB.trans (hB3.mono hB.size), .inr (.inl rfl)⟩
      case measure => simp [intOf]
    · have C := HH1.out wr hB
      have d0 : wr.cell? ⟨b, 1, none⟩ = some x1 := by rw [hB.cell hbl]; exact HC1.out
      cases b1 with
      | true =>
        go_wp2_with fail
        refine C.mono ?_
        rintro e w3 ⟨rfl, hB3⟩
        clear C
        go_wp2_with fail
        go_ret
        exact ⟨rfl, hB.trans (hB3.mono hB.size)⟩
      | false =>
        go_wp2_with fail
        refine C.mono ?_
        rintro e w3 ⟨rfl, hB3⟩
        clear C
        go_wp2_with fail
        go_roundw
        case rel => exact ⟨hB.trans (hB3.mono hB.size), .inr (.inr ⟨rfl, trivial⟩)⟩
        case measure => simp [intOf]
    · go_wp2_with fail
      go_ret
      exact ⟨rfl, hB⟩

set_option maxHeartbeats 400000 in
theorem contains_any (b : Nat) (x0 x1 : Value) (b1 : Bool) (w : World) (c0 : w.cell? ⟨b, 0, none⟩ = some x0) (c1 : w.cell? ⟨b, 1, none⟩ = some x1)
    (h0 : ∀ w1 : World, Below w.heap.size w w1 → Calls Try.prog 10 #[x0] w1 fun e w2 => e = .returned (.bool false) ∧ Below w1.heap.size w1 w2)
    (h1 : ∀ w1 : World, Below w.heap.size w w1 → Calls Try.prog 10 #[x1] w1 fun e w2 => e = .returned (.bool b1) ∧ Below w1.heap.size w1 w2) :
    Calls Try.prog 11 #[.slice (some ⟨b, 0, none⟩) 2 2, .func (.func 10) #[] #[]] w fun e w' => e = .returned (.bool b1) ∧ Below w.heap.size w w' := by
  have C := index_any b x0 x1 b1 w c0 c1 h0 h1
  clear h0 h1 c0 c1
  cases b1 with
  | true =>
    go_enter Try.func11, Try.ntmps11
    go_wp2_with fail
    refine C.mono ?_
    rintro e w3 ⟨rfl, hB3⟩
    clear C
    go_wp2_with fail
    go_ret
    exact ⟨rfl, hB3⟩
  | false =>
    go_enter Try.func11, Try.ntmps11
    go_wp2_with fail
    refine C.mono ?_
    rintro e w3 ⟨rfl, hB3⟩
    clear C
    go_wp2_with fail
    go_ret
    exact ⟨rfl, hB3⟩

set_option maxHeartbeats 400000 in
theorem refers_list (b : Nat) (x0 x1 : Value) (b1 : Bool) (w : World) (c0 : w.cell? ⟨b, 0, none⟩ = some x0) (c1 : w.cell? ⟨b, 1, none⟩ = some x1)
    (h0 : ∀ w1 : World, Below w.heap.size w w1 → Calls Try.prog 10 #[x0] w1 fun e w2 => e = .returned (.bool false) ∧ Below w1.heap.size w1 w2)
    (h1 : ∀ w1 : World, Below w.heap.size w w1 → Calls Try.prog 10 #[x1] w1 fun e w2 => e = .returned (.bool b1) ∧ Below w1.heap.size w1 w2) :
    Calls Try.prog 10 #[.iface 26 (.slice (some ⟨b, 0, none⟩) 2 2)] w fun e w' => e = .returned (.bool b1) ∧ Below w.heap.size w w' := by
  have C := contains_any b x0 x1 b1 w c0 c1 h0 h1
  clear h0 h1 c0 c1
  have t1 := ta26_26
  go_enter Try.func10, Try.ntmps10
  go_wp2_with fail
  refine C.mono ?_
  rintro e w3 ⟨rfl, hB3⟩
  clear C
  go_wp2_with fail
  go_ret
  exact ⟨rfl, hB3⟩

theorem set_below (w : World) (a b c : Obj) : ({ (w.alloc a).alloc b with heap := ((w.alloc a).alloc b).heap.setIfInBounds w.heap.size c } : World) = (w.alloc c).alloc b := by
  have e : ((w.heap.push a).push b).setIfInBounds w.heap.size c = (w.heap.push c).push b := by
    apply Array.toList_inj.1; simp
  show ({ w with heap := ((w.heap.push a).push b).setIfInBounds w.heap.size c } : World) = { w with heap := (w.heap.push c).push b }
  rw [e]

theorem heap_below (w : World) (a b : Obj) : ((w.alloc a).alloc b).heap[w.heap.size]? = some a := by
  rw [heap_alloc_old _ _ (by simp)]; exact heap_alloc_new w a

theorem ins_inner (w : World) (k : ByteArray) (v : Value) :
    (Instr.mapUpdate 25 (.map (some (w.heap.size + 1))) (.string k) v).run Try.prog ((w.alloc (.map #[] 0)).alloc (.map #[] 0)) = .ok () ((w.alloc (.map #[] 0)).alloc (.map #[{ key := .string k, val := v, born := 0 }] 1)) := by
  have h := ins_first (w.alloc (.map #[] 0)) k v
  have e : (w.alloc (.map #[] 0)).heap.size = w.heap.size + 1 := by simp
  rw [e] at h; exact h
theorem ins_outer (w : World) (k : ByteArray) (v : Value) (o : Obj) :
    (Instr.mapUpdate 25 (.map (some w.heap.size)) (.string k) v).run Try.prog ((w.alloc (.map #[] 0)).alloc o) = .ok () ((w.alloc (.map #[{ key := .string k, val := v, born := 0 }] 1)).alloc o) := by
  rw [run_mapUpdate_first (P := Try.prog) _ 25 9 20 w.heap.size 0 k v Try.underlying25 Try.underlying9 (heap_below w _ _), set_below]

/-- the world in which the list is asked -/
def listW (w : World) (s o i v : ByteArray) : World :=
  ((w.alloc (.map #[{ key := .string o, val := .iface 25 (.map (some (w.heap.size + 1))), born := 0 }] 1)).alloc (.map #[{ key := .string i, val := .iface 9 (.string v), born := 0 }] 1)).alloc (.cells #[.iface 9 (.string s), .iface 25 (.map (some w.heap.size))] 20)

theorem list_asked (w : World) (s o i v : ByteArray) :
    Calls Try.prog 10 #[.iface 26 (.slice (some ⟨w.heap.size + 1 + 1, 0, none⟩) 2 2)] (listW w s o i v) fun e w' => e = .returned (.bool (o == refB || i == refB)) ∧ Below (listW w s o i v).heap.size (listW w s o i v) w' := by
  have z1 : (w.alloc (.map #[{ key := .string o, val := .iface 25 (.map (some (w.heap.size + 1))), born := 0 }] 1)).heap.size = w.heap.size + 1 := by simp
  have z2 : ((w.alloc (.map #[{ key := .string o, val := .iface 25 (.map (some (w.heap.size + 1))), born := 0 }] 1)).alloc (.map #[{ key := .string i, val := .iface 9 (.string v), born := 0 }] 1)).heap.size = w.heap.size + 1 + 1 := by simp
  have z3 : (listW w s o i v).heap.size = w.heap.size + 1 + 1 + 1 := by simp [listW]
  have hc : ∀ j, (listW w s o i v).cell? ⟨w.heap.size + 1 + 1, j, none⟩ = (#[.iface 9 (.string s), .iface 25 (.map (some w.heap.size))] : Array Value)[j]? := fun j => by
    unfold listW; rw [← z2, World.cell?_alloc_new]
  have ho : (listW w s o i v).heap[w.heap.size]? = some (.map #[{ key := .string o, val := .iface 25 (.map (some (w.heap.size + 1))), born := 0 }] 1) := by
    unfold listW; rw [heap_alloc_old _ _ (by rw [z2]; omega)]; exact heap_below w _ _
  have hi : (listW w s o i v).heap[w.heap.size + 1]? = some (.map #[{ key := .string i, val := .iface 9 (.string v), born := 0 }] 1) := by
    unfold listW; rw [heap_alloc_old _ _ (by rw [z2]; omega)]
    have h := heap_alloc_new (w.alloc (.map #[{ key := .string o, val := .iface 25 (.map (some (w.heap.size + 1))), born := 0 }] 1)) (.map #[{ key := .string i, val := .iface 9 (.string v), born := 0 }] 1)
    rw [z1] at h; exact h
  refine refers_list _ _ _ _ _ (by rw [hc]; rfl) (by rw [hc]; rfl) (refers_str' s _) ?_
  intro w1 hB1
  refine refers_one w.heap.size o _ (i == refB) w1 (by rw [hB1.block _ (by omega)]; exact ho) ?_
  intro w2 hB2
  have C := refers_one (w.heap.size + 1) i (.iface 9 (.string v)) false w2 (by rw [hB2.block _ (by have := hB1.size; omega), hB1.block _ (by omega)]; exact hi) (refers_str' v _)
  rw [Bool.or_false] at C
  exact C

set_option maxHeartbeats 400000 in
theorem nested_any (s o i v : ByteArray) (w : World) :
    Calls Try.prog 9 #[.string s, .string o, .string i, .string v] w fun e w' => e = .returned (.bool (o == refB || i == refB)) ∧ Below w.heap.size w w' := by
  have hmm := @run_makeMap Try.prog
  have C := list_asked w s o i v
  have e1 := ins_inner w i (.iface 9 (.string v))
  have e2 := ins_outer w o (.iface 25 (.map (some (w.heap.size + 1)))) (.map #[{ key := .string i, val := .iface 9 (.string v), born := 0 }] 1)
  obtain ⟨b, hb⟩ : ∃ b, (o == refB || i == refB) = b := ⟨_, rfl⟩
  rw [hb] at C ⊢
  clear hb
  go_enter Try.func9, Try.ntmps9
  go_wp2_with fail
  refine C.mono ?_
  rintro e w1 ⟨rfl, hB⟩
  clear C e1 e2 hmm
  go_wp2_with fail
  go_ret
  refine ⟨rfl, ?_⟩
  have hB0 : Below w.heap.size w (listW w s o i v) := (((Below.refl _ _).alloc (Nat.le_refl _) _).alloc (by simp) _).alloc (by simp; omega) _
  exact hB0.trans (hB.mono hB0.size)
end Go.Proofs.Qxb6609157a
