import Derived.Test.Qxb6609157aObj
import Derived.WalkKit
import Derived.WalkSpells
import Derived.WalkLawsBesides
set_option linter.unusedVariables false
namespace Go.Proofs.Qxb6609157a
open Go.RowKit Go.ChangeMaps

set_option maxHeartbeats 400000 in
theorem bytes8_yes (a b c d : ByteArray) (w : World) (h : a.size + b.size + c.size + d.size ≤ 1048576) :
    Calls Try.prog 8 #[.string a, .string b, .string c, .string d] w fun e w' => e = .returned (.bool true) ∧ w' = w := by
  go_enter Try.func8, Try.ntmps8
  go_wp2
  go_ret
  exact ⟨rfl, rfl⟩
set_option maxHeartbeats 400000 in
theorem bytes8_no (a b c d : ByteArray) (w : World) (h : 1048576 < a.size + b.size + c.size + d.size) (h1 : a.size ≤ maxLen) (h2 : b.size ≤ maxLen) (h3 : c.size ≤ maxLen) (h4 : d.size ≤ maxLen) :
    Calls Try.prog 8 #[.string a, .string b, .string c, .string d] w fun e w' => e = .returned (.bool false) ∧ w' = w := by
  unfold maxLen at h1 h2 h3 h4
  go_enter Try.func8, Try.ntmps8
  go_wp2
  all_goals (go_ret; exact ⟨rfl, rfl⟩)
set_option maxHeartbeats 400000 in
theorem bytes5_yes (a b c d : ByteArray) (w : World) (h : a.size + b.size + c.size + d.size ≤ 1048576) :
    Calls Try.prog 5 #[.string a, .string b, .string c, .string d] w fun e w' => e = .returned (.bool true) ∧ w' = w := by
  go_enter Try.func5, Try.ntmps5
  go_wp2
  go_ret
  exact ⟨rfl, rfl⟩
set_option maxHeartbeats 400000 in
theorem bytes5_no (a b c d : ByteArray) (w : World) (h : 1048576 < a.size + b.size + c.size + d.size) (h1 : a.size ≤ maxLen) (h2 : b.size ≤ maxLen) (h3 : c.size ≤ maxLen) (h4 : d.size ≤ maxLen) :
    Calls Try.prog 5 #[.string a, .string b, .string c, .string d] w fun e w' => e = .returned (.bool false) ∧ w' = w := by
  unfold maxLen at h1 h2 h3 h4
  go_enter Try.func5, Try.ntmps5
  go_wp2
  all_goals (go_ret; exact ⟨rfl, rfl⟩)

theorem ref_toList (o : ByteArray) : (o == refB) = (o.toList == [36, 114, 101, 102]) := by
  have e : refB.toList = [36, 114, 101, 102] := ByteArray.toList_mk [36, 114, 101, 102]
  by_cases h : o = refB
  · subst h; rw [bytes_same, e]; rfl
  · rw [bytes_diff h]
    cases hb : o.toList == [36, 114, 101, 102] with
    | false => rfl
    | true =>
      exfalso; apply h
      have h2 : o.toList = refB.toList := by rw [e]; exact beq_iff_eq.1 hb
      have h3 : o.data.toList = refB.data.toList := by rw [ByteArray.toList_eq, ByteArray.toList_eq] at h2; exact h2
      exact ByteArray.ext (Array.toList_inj.1 h3)

set_option maxHeartbeats 400000 in
theorem nested_law (s o i v : ByteArray) (w : World) (h1 : s.size ≤ maxLen) (h2 : o.size ≤ maxLen) (h3 : i.size ≤ maxLen) (h4 : v.size ≤ maxLen) :
    Calls Try.prog 4 #[.string s, .string o, .string i, .string v] w fun e w' => e = .returned (.bool true) ∧ Below w.heap.size w w' := by
  by_cases h : s.size + o.size + i.size + v.size ≤ 1048576
  · have C := bytes8_yes s o i v w h
    have D := nested_any s o i v w
    rw [ref_toList, ref_toList] at D
    obtain ⟨bo, ho⟩ : ∃ b, (o.toList == [36, 114, 101, 102]) = b := ⟨_, rfl⟩
    obtain ⟨bi, hi⟩ : ∃ b, (i.toList == [36, 114, 101, 102]) = b := ⟨_, rfl⟩
    rw [ho, hi] at D
    unfold maxLen at h1 h2 h3 h4
    cases bo <;> cases bi <;> (
      go_enter Try.func4, Try.ntmps4
      go_wp2_with (first | (go_at_call 8; refine C.mono ?_; rintro e w' ⟨rfl, hw'⟩; replace hw' := hw'.symm; subst hw') | (go_at_call 9; refine D.mono ?_; rintro e w' ⟨rfl, hB⟩))
      go_ret
      exact ⟨rfl, hB⟩)
  · have C := bytes8_no s o i v w (by omega) h1 h2 h3 h4
    go_enter Try.func4, Try.ntmps4
    go_wp2_with (go_at_call 8; refine C.mono ?_; rintro e w' ⟨rfl, hw'⟩; replace hw' := hw'.symm; subst hw')
    go_ret
    exact ⟨rfl, Below.refl _ _⟩

set_option maxHeartbeats 400000 in
theorem flat_law (k1 v1 k2 v2 : ByteArray) (w : World) (h1 : k1.size ≤ maxLen) (h2 : v1.size ≤ maxLen) (h3 : k2.size ≤ maxLen) (h4 : v2.size ≤ maxLen) :
    Calls Try.prog 3 #[.string k1, .string v1, .string k2, .string v2] w fun e w' => e = .returned (.bool true) ∧ Below w.heap.size w w' := by
  by_cases h : k1.size + v1.size + k2.size + v2.size ≤ 1048576
  · have C := bytes5_yes k1 v1 k2 v2 w h
    have D1 := obj1 k1 v1 w
    have D2 : ∀ w1, Calls Try.prog 7 #[.string k1, .string v1, .string k2, .string v2] w1 fun e w' => e = .returned (.bool (k1 == refB && k2 == refB)) ∧ Below w1.heap.size w1 w' := fun w1 => obj2 k1 v1 k2 v2 w1
    rw [ref_toList] at D1
    simp only [ref_toList] at D2
    obtain ⟨bo, ho⟩ : ∃ b, (k1.toList == [36, 114, 101, 102]) = b := ⟨_, rfl⟩
    obtain ⟨bi, hi⟩ : ∃ b, (k2.toList == [36, 114, 101, 102]) = b := ⟨_, rfl⟩
    rw [ho] at D1
    simp only [ho, hi] at D2
    have DD : Hid _ := D2
    clear D2
    unfold maxLen at h1 h2 h3 h4
    cases bo <;> cases bi <;> (
      go_enter Try.func3, Try.ntmps3
      go_wp2_with (first | (go_at_call 5; refine C.mono ?_; rintro e w' ⟨rfl, hw'⟩; replace hw' := hw'.symm; subst hw') | (go_at_call 6; refine D1.mono ?_; rintro e w1 ⟨rfl, hB1⟩) | (go_at_call 7; refine (DD.out w1).mono ?_; rintro e w2 ⟨rfl, hB2⟩))
      go_ret
      exact ⟨rfl, hB1.trans (hB2.mono hB1.size)⟩)
  · have C := bytes5_no k1 v1 k2 v2 w (by omega) h1 h2 h3 h4
    go_enter Try.func3, Try.ntmps3
    go_wp2_with (go_at_call 5; refine C.mono ?_; rintro e w' ⟨rfl, hw'⟩; replace hw' := hw'.symm; subst hw')
    go_ret
    exact ⟨rfl, Below.refl _ _⟩
end Go.Proofs.Qxb6609157a
