import Derived.Test.Qxb6612581aModel
import Derived.WalkKit
import Derived.WalkSpells
import Derived.WalkLawsBesides
import Derived.BigRegion
import Derived.BigQuiet
import Derived.Deep.QuietTactic
import Derived.WalkSmall
set_option linter.unusedVariables false
namespace Go.Proofs.Qxb6612581a
open Go.RowKit

set_option maxHeartbeats 400000 in
theorem rbytes8 (a : Option Addr) (n c : Nat) (j : Int) (w : World) (hn : n ≤ 1048576) :
    Calls Try.prog 8 #[.slice a n c, .int .i64 j] w fun e w' => e = .returned (.bool true) ∧ w' = w := by
  go_enter Try.func8, Try.ntmps8
  go_wp2
  go_ret
  exact ⟨rfl, rfl⟩
set_option maxHeartbeats 400000 in
theorem rbytes8_no (a : Option Addr) (n c : Nat) (j : Int) (w : World) (hn : 1048576 < n) :
    Calls Try.prog 8 #[.slice a n c, .int .i64 j] w fun e w' => e = .returned (.bool false) ∧ w' = w := by
  go_enter Try.func8, Try.ntmps8
  go_wp2
  go_ret
  exact ⟨rfl, rfl⟩

/-- the order that 'up' leaves, whatever j -/
def TF (K : Nat → Int) (j : Int) : Nat → Nat := if j ≤ 0 then id else upF K j.toNat j.toNat id

theorem clone_u (w : World) (a0 : Option Addr) (n cap : Nat) (zs : List Int) (K : Nat → Int) (hK : ∀ i, K i = zs.getD i 0) (hn : n ≤ 65536)
    (h : (a0 = none ∧ n = 0 ∧ cap = 0) ∨ ∃ x, a0 = some x ∧ n ≤ zs.length ∧ ∀ i, i < zs.length → w.cell? (x.add i) = some (.int .i64 (zs.getD i 0))) :
    Calls Try.prog 9 #[.slice a0 n cap] w fun e w' => ∃ ao c' g, e = .returned (.slice ao n c') ∧ (0 < n → ao = some ⟨g, 0, none⟩) ∧ (0 < n → g < w'.heap.size) ∧ (∀ i, i < n → w'.cell? ⟨g, i, none⟩ = some (.int .i64 (K i))) ∧ Below w.heap.size w w' := by
  rcases h with ⟨rfl, rfl, rfl⟩ | ⟨x, rfl, hz, hc⟩
  · refine (clone_nil w).mono ?_
    rintro e w' ⟨rfl, rfl⟩
    exact ⟨none, 0, 0, rfl, fun h => by omega, fun h => by omega, fun i hi => by omega, Below.refl _ _⟩
  · refine (clone_some w x n cap zs hn hz hc).mono ?_
    rintro e w' ⟨g, rfl, h1, h2, hR, hB⟩
    exact ⟨_, _, g, rfl, fun _ => rfl, fun _ => h2, fun i hi => by rw [hK]; exact hR.1 i hi, hB⟩

theorem up_u (w : World) (B eb hb n : Nat) (P : Nat → Nat) (K : Nat → Int) (j : Int) (h : Ex w B eb hb n P id K) (hj : j ≤ 0 ∨ j < n) (hn : n ≤ 65536) :
    Calls Try.prog 11 #[.pointer (some ⟨eb, 0, none⟩), .int .i64 j] w fun e w' => e = .returned (.tuple #[]) ∧ Ex w' B eb hb n P (TF K j) K ∧ Below B w w' := by
  by_cases h0 : j ≤ 0
  · refine (ZZup_none w _ j h0).mono ?_
    rintro e w' ⟨rfl, rfl⟩
    unfold TF; rw [if_pos h0]
    exact ⟨rfl, h, Below.refl _ _⟩
  · obtain ⟨m, rfl⟩ : ∃ m : Nat, j = m := ⟨j.toNat, by omega⟩
    unfold TF; rw [if_neg h0, Int.toNat_natCast]
    exact ZZup_any w B eb hb n P id K m h (by omega) hn

theorem model_u (w : World) (ao : Option Addr) (kb n c : Nat) (K : Nat → Int) (j : Int) (hj : j ≤ 0 ∨ j < n) (hn : n ≤ 65536) (ha : 0 < n → ao = some ⟨kb, 0, none⟩) (hk : ∀ i, i < n → w.cell? ⟨kb, i, none⟩ = some (.int .i64 (K i))) :
    Calls Try.prog 14 #[.slice ao n c, .int .i64 j] w fun e w' => ∃ g, e = .returned (.slice (some ⟨g, 0, none⟩) n n) ∧ w.heap.size ≤ g ∧ g < w'.heap.size ∧ Row w' g n (fun i => .int .i64 (TF K j i : Nat)) n ∧ Below w.heap.size w w' := by
  by_cases h0 : j ≤ 0
  · unfold TF; rw [if_pos h0]
    exact model_none w ao n c j h0 hn
  · obtain ⟨m, rfl⟩ : ∃ m : Nat, j = m := ⟨j.toNat, by omega⟩
    unfold TF; rw [if_neg h0, Int.toNat_natCast, ha (by omega)]
    exact model_some w kb n c K m (by omega) (by omega) hn hk

set_option maxHeartbeats 400000 in
set_option maxRecDepth 100000 in
theorem rot_big (a : Option Addr) (n c : Nat) (j : Int) (w : World) (hn : 65536 < n ∨ (0 < j ∧ (n : Int) ≤ j)) :
    Calls Try.prog 3 #[.slice a n c, .int .i64 j] w fun e w' => e = .returned (.bool true) ∧ w' = w := by
  by_cases h1 : 1048576 < n
  · go_enter Try.func3, Try.ntmps3
    go_wp2_with (go_at_call 8; refine (rbytes8_no _ _ _ _ _ h1).mono ?_; rintro e w' ⟨rfl, rfl⟩)
    go_ret
    exact ⟨rfl, rfl⟩
  · have C := rbytes8 a n c j w (by omega)
    by_cases h2 : 65536 < n
    · go_enter Try.func3, Try.ntmps3
      go_wp2_with (go_at_call 8; refine C.mono ?_; rintro e w' ⟨rfl, rfl⟩)
      go_ret
      exact ⟨rfl, rfl⟩
    · have h4 : (n : Int) ≤ j := by omega
      have h5 : (0 : Int) < j := by omega
      go_enter Try.func3, Try.ntmps3
      go_wp2_with (go_at_call 8; refine C.mono ?_; rintro e w' ⟨rfl, rfl⟩)
      go_ret
      exact ⟨rfl, rfl⟩

set_option maxHeartbeats 400000 in
set_option maxRecDepth 100000 in
theorem rot_any (a0 : Option Addr) (n cap : Nat) (j : Int) (zs : List Int) (K : Nat → Int) (w : World) (hj : j ≤ 0 ∨ j < n) (hn : n ≤ 65536) (hK : Hid (∀ i, K i = zs.getD i 0))
    (hKb : Hid (∀ i, i < n → -9223372036854775808 ≤ K i ∧ K i ≤ 9223372036854775807))
    (h : Hid ((a0 = none ∧ n = 0 ∧ cap = 0) ∨ ∃ x, a0 = some x ∧ n ≤ zs.length ∧ ∀ i, i < zs.length → w.cell? (x.add i) = some (.int .i64 (zs.getD i 0)))) :
    Calls Try.prog 3 #[.slice a0 n cap, .int .i64 j] w fun e w' => e = .returned (.bool true) ∧ Below w.heap.size w w' := by
  have C8 := rbytes8 a0 n cap j w (by omega)
  have C9 := clone_u w a0 n cap zs K hK.out hn h.out
  have d1 : decide ((65536 : Int) < (n : Int)) = false := decide_eq_false (by omega)
  by_cases h0 : j ≤ 0
  · have DD : decide (0 < j) = false := decide_eq_false (by omega)
    have d3 : True := trivial
    go_enter Try.func3, Try.ntmps3
    go_wp2_with (go_at_call 8; refine C8.mono ?_; rintro e w' ⟨rfl, hw'⟩; replace hw' := hw'.symm; subst hw')
    clear C8 h hK d1 DD d3
    refine C9.mono ?_
    rintro e w1 ⟨ao, c', g, rfl, ha, hg, hR, hB1⟩
    have HA : Hid (0 < n → ao = some ⟨g, 0, none⟩) := ha
    have HG : Hid (0 < n → g < w1.heap.size) := hg
    have HR : Hid (∀ i, i < n → w1.cell? ⟨g, i, none⟩ = some (.int .i64 (K i))) := hR
    have C10 := new_any w1 ao g n c' K ha hR hg hKb.out hn
    clear C9 ha hg hR hKb
    go_wp2_with fail
    refine C10.mono ?_
    rintro e w2 ⟨eb, hb, P, rfl, hE2, hB2⟩
    have C11 := up_u w2 w1.heap.size eb hb n P K j hE2 hj hn
    clear C10 hE2
    go_wp2_with fail
    refine C11.mono ?_
    rintro e w3 ⟨rfl, hE3, hB3⟩
    have C12 := tags_any w3 w1.heap.size eb hb n P (TF K j) K hE3 hn
    clear C11
    go_wp2_with fail
    refine C12.mono ?_
    rintro e w4 ⟨g1, rfl, hg3, hg4, hR4, hB4⟩
    have C13 := indexes_any w4 w1.heap.size eb hb n P (TF K j) K (hE3.below hB4) hn
    clear C12 hE3
    go_wp2_with fail
    refine C13.mono ?_
    rintro e w5 ⟨g2, rfl, hg5, hg6, hR5, hB5⟩
    have hB15 : Below w1.heap.size w1 w5 := hB2.trans (hB3.trans ((hB4.mono (by have := hB2.size; have := hB3.size; omega)).trans (hB5.mono (by have := hB2.size; have := hB3.size; have := hB4.size; omega))))
    have hB05 : Below w.heap.size w w5 := hB1.trans (hB15.mono hB1.size)
    have RT := hR4.below hB5 hg4
    have hgt : g1 < w5.heap.size := by have := hB5.size; omega
    have C14 := model_u w5 ao g n c' K j hj hn HA.out (fun i hi => by rw [hB15.cell (HG.out (by omega))]; exact HR.out i hi)
    clear C13 hB1 hB2 hB3 hB4 hB5 hR4 hg3 hg4 hg5 hB15 HA HG HR
    go_wp2_with fail
    refine C14.mono ?_
    rintro e w6 ⟨g3, rfl, hg7, hg8, hR6, hB6⟩
    have hB06 : Below w.heap.size w w6 := hB05.trans (hB6.mono hB05.size)
    have RT6 := RT.below hB6 hgt
    have RI6 := hR5.below hB6 hg6
    clear C14 RT hR5 hB05 hB6 hgt hg6 hg7 hj
    go_wp2_with fail
    go_loopw [9] (fun iv ww => ∃ (k q : Nat), iv = .int .i64 k ∧ k ≤ n ∧ ww = w6.drewN q) (fun iv _ => n - (intOf iv).toNat)
    case atStart => exact ⟨0, 0, rfl, Nat.zero_le _, rfl⟩
    case round =>
      obtain ⟨k, q, rfl, hk, rfl⟩ := hrel
      by_cases hlt : k < n
      · obtain ⟨t, ht⟩ : ∃ t, TF K j k = t := ⟨_, rfl⟩
        have c1 : w6.cell? ⟨g1, k, none⟩ = some (.int .i64 t) := by rw [← ht]; exact RT6.1 k hlt
        have c2 : w6.cell? ⟨g3, k, none⟩ = some (.int .i64 t) := by rw [← ht]; exact hR6.1 k hlt
        have c3 : w6.cell? ⟨g2, k, none⟩ = some (.int .i64 k) := RI6.1 k hlt
        clear ht
        have b1 : (k : Int) < n := by omega
        have b2 : (0 : Int) ≤ k := by omega
        go_wp2_with fail
        go_quiet (fail)
        go_wp2_with fail
        go_roundw
        case rel => exact ⟨k + 1, _, by go_num, by omega, rfl⟩
        case measure => simp [intOf]; omega
      · go_wp2_with fail
        go_ret
        exact ⟨rfl, below_drewN hB06 _⟩
  · have DD : decide (0 < j) = true := decide_eq_true (by omega)
    have d3 : decide ((n : Int) ≤ j) = false := decide_eq_false (by omega)
    go_enter Try.func3, Try.ntmps3
    go_wp2_with (go_at_call 8; refine C8.mono ?_; rintro e w' ⟨rfl, hw'⟩; replace hw' := hw'.symm; subst hw')
    clear C8 h hK d1 DD d3
    refine C9.mono ?_
    rintro e w1 ⟨ao, c', g, rfl, ha, hg, hR, hB1⟩
    have HA : Hid (0 < n → ao = some ⟨g, 0, none⟩) := ha
    have HG : Hid (0 < n → g < w1.heap.size) := hg
    have HR : Hid (∀ i, i < n → w1.cell? ⟨g, i, none⟩ = some (.int .i64 (K i))) := hR
    have C10 := new_any w1 ao g n c' K ha hR hg hKb.out hn
    clear C9 ha hg hR hKb
    go_wp2_with fail
    refine C10.mono ?_
    rintro e w2 ⟨eb, hb, P, rfl, hE2, hB2⟩
    have C11 := up_u w2 w1.heap.size eb hb n P K j hE2 hj hn
    clear C10 hE2
    go_wp2_with fail
    refine C11.mono ?_
    rintro e w3 ⟨rfl, hE3, hB3⟩
    have C12 := tags_any w3 w1.heap.size eb hb n P (TF K j) K hE3 hn
    clear C11
    go_wp2_with fail
    refine C12.mono ?_
    rintro e w4 ⟨g1, rfl, hg3, hg4, hR4, hB4⟩
    have C13 := indexes_any w4 w1.heap.size eb hb n P (TF K j) K (hE3.below hB4) hn
    clear C12 hE3
    go_wp2_with fail
    refine C13.mono ?_
    rintro e w5 ⟨g2, rfl, hg5, hg6, hR5, hB5⟩
    have hB15 : Below w1.heap.size w1 w5 := hB2.trans (hB3.trans ((hB4.mono (by have := hB2.size; have := hB3.size; omega)).trans (hB5.mono (by have := hB2.size; have := hB3.size; have := hB4.size; omega))))
    have hB05 : Below w.heap.size w w5 := hB1.trans (hB15.mono hB1.size)
    have RT := hR4.below hB5 hg4
    have hgt : g1 < w5.heap.size := by have := hB5.size; omega
    have C14 := model_u w5 ao g n c' K j hj hn HA.out (fun i hi => by rw [hB15.cell (HG.out (by omega))]; exact HR.out i hi)
    clear C13 hB1 hB2 hB3 hB4 hB5 hR4 hg3 hg4 hg5 hB15 HA HG HR
    go_wp2_with fail
    refine C14.mono ?_
    rintro e w6 ⟨g3, rfl, hg7, hg8, hR6, hB6⟩
    have hB06 : Below w.heap.size w w6 := hB05.trans (hB6.mono hB05.size)
    have RT6 := RT.below hB6 hgt
    have RI6 := hR5.below hB6 hg6
    clear C14 RT hR5 hB05 hB6 hgt hg6 hg7 hj
    go_wp2_with fail
    go_loopw [9] (fun iv ww => ∃ (k q : Nat), iv = .int .i64 k ∧ k ≤ n ∧ ww = w6.drewN q) (fun iv _ => n - (intOf iv).toNat)
    case atStart => exact ⟨0, 0, rfl, Nat.zero_le _, rfl⟩
    case round =>
      obtain ⟨k, q, rfl, hk, rfl⟩ := hrel
      by_cases hlt : k < n
      · obtain ⟨t, ht⟩ : ∃ t, TF K j k = t := ⟨_, rfl⟩
        have c1 : w6.cell? ⟨g1, k, none⟩ = some (.int .i64 t) := by rw [← ht]; exact RT6.1 k hlt
        have c2 : w6.cell? ⟨g3, k, none⟩ = some (.int .i64 t) := by rw [← ht]; exact hR6.1 k hlt
        have c3 : w6.cell? ⟨g2, k, none⟩ = some (.int .i64 k) := RI6.1 k hlt
        clear ht
        have b1 : (k : Int) < n := by omega
        have b2 : (0 : Int) ≤ k := by omega
        go_wp2_with fail
        go_quiet (fail)
        go_wp2_with fail
        go_roundw
        case rel => exact ⟨k + 1, _, by go_num, by omega, rfl⟩
        case measure => simp [intOf]; omega
      · go_wp2_with fail
        go_ret
        exact ⟨rfl, below_drewN hB06 _⟩
end Go.Proofs.Qxb6612581a
