import Derived.Test.Qxb6612581aRows
import Derived.Test.Qxb6612581aBits
import Derived.WalkKit
import Derived.WalkSpells
import Derived.WalkLawsBesides
set_option linter.unusedVariables false
namespace Go.Proofs.Qxb6612581a
open Go.RowKit

theorem wrap32_small (x : Int) (h0 : 0 ≤ x) (h1 : x < 1073741824) : wrap32 x = x := by
  unfold wrap32; omega

set_option maxHeartbeats 400000 in
theorem nsec_any (b o : Nat) (x : Int) (w : World) (hc : w.cell? ⟨b, o, none⟩ = some (.int .u64 x)) (h0 : 0 ≤ x) (h1 : x < 1073741824) :
    Calls Try.prog 35 #[.pointer (some ⟨b, o, none⟩)] w fun e w' => e = .returned (.int .i32 x) ∧ w' = w := by
  have e1 := and_mask x h0 h1
  have e2 := wrap32_small x h0 h1
  go_enter Try.func35, Try.ntmps35
  go_wp2
  go_ret
  exact ⟨rfl, rfl⟩

set_option maxHeartbeats 400000 in
theorem sec_any (b o : Nat) (x s : Int) (w : World) (hc : w.cell? ⟨b, o, none⟩ = some (.int .u64 x)) (hs : w.cell? ⟨b, o + 1, none⟩ = some (.int .i64 s)) (h0 : 0 ≤ x) (h1 : x < 1073741824) :
    Calls Try.prog 42 #[.pointer (some ⟨b, o, none⟩)] w fun e w' => e = .returned (.int .i64 s) ∧ w' = w := by
  have e1 := and_hi x h0 h1
  go_enter Try.func42, Try.ntmps42
  go_wp2
  go_ret
  exact ⟨rfl, rfl⟩

set_option maxHeartbeats 400000 in
theorem addSec_any (b o : Nat) (x d : Int) (w : World) (hc : w.cell? ⟨b, o, none⟩ = some (.int .u64 x)) (hs : w.cell? ⟨b, o + 1, none⟩ = some (.int .i64 0)) (hf : w.frozen? ⟨b, o + 1, none⟩ = false) (h0 : 0 ≤ x) (h1 : x < 1073741824) (hd0 : -9223372037 ≤ d) (hd1 : d ≤ 9223372037) :
    Calls Try.prog 36 #[.pointer (some ⟨b, o, none⟩), .int .i64 d] w fun e w' => e = .returned (.tuple #[]) ∧ w' = w.setCell ⟨b, o + 1, none⟩ (.int .i64 d) := by
  have e1 := and_hi x h0 h1
  go_enter Try.func36, Try.ntmps36
  go_wp2
  go_end0
  exact ⟨rfl, rfl⟩

set_option maxHeartbeats 400000 in
theorem add_pos (k q r : Int) (w : World) (hq : k.tdiv 1000000000 = q) (hr : k.tmod 1000000000 = r) (hk0 : -9223372036854775808 ≤ k) (hk1 : k ≤ 9223372036854775807) (hq0 : -9223372037 ≤ q) (hq1 : q ≤ 9223372037) (r0 : 0 ≤ r) (r1 : r < 1000000000) :
    Calls Try.prog 28 #[.agg #[.int .u64 0, .int .i64 0, .pointer none], .int .i64 k] w fun e w' => e = .returned (.agg #[.int .u64 r, .int .i64 q, .pointer none]) ∧ Below w.heap.size w w' := by
  have e1 := andNot_zero
  have e2 := or_zero r r0 (by omega)
  have e3 := and_hi r r0 (by omega)
  go_enter Try.func28, Try.ntmps28
  go_wp2_with (first
    | (go_at_call 35; refine (nsec_any _ _ 0 _ (by simp) (by omega) (by omega)).mono ?_; rintro e w' ⟨rfl, rfl⟩)
    | (go_at_call 36; refine (addSec_any _ _ r q _ (by simp) (by simp) (by simp) (by omega) (by omega) (by omega) (by omega)).mono ?_; rintro e w' ⟨rfl, rfl⟩))
  exact bodyPost_ret (v := .agg #[.int .u64 r, .int .i64 q, .pointer none]) (by simp [results, Try.results28, go_sem]) rfl ⟨rfl, ((Below.refl _ _).alloc (Nat.le_refl _) _).alloc (by simp) _⟩

set_option maxHeartbeats 400000 in
theorem add_neg (k q r : Int) (w : World) (hq : k.tdiv 1000000000 = q) (hr : k.tmod 1000000000 = r) (hk0 : -9223372036854775808 ≤ k) (hk1 : k ≤ 9223372036854775807) (hq0 : -9223372036 ≤ q) (hq1 : q ≤ 9223372037) (r0 : -1000000000 < r) (r1 : r < 0) :
    Calls Try.prog 28 #[.agg #[.int .u64 0, .int .i64 0, .pointer none], .int .i64 k] w fun e w' => e = .returned (.agg #[.int .u64 (r + 1000000000), .int .i64 (q - 1), .pointer none]) ∧ Below w.heap.size w w' := by
  have e1 := andNot_zero
  have e2 := or_zero (r + 1000000000) (by omega) (by omega)
  have e3 := and_hi (r + 1000000000) (by omega) (by omega)
  go_enter Try.func28, Try.ntmps28
  go_wp2_with (first
    | (go_at_call 35; refine (nsec_any _ _ 0 _ (by simp) (by omega) (by omega)).mono ?_; rintro e w' ⟨rfl, rfl⟩)
    | (go_at_call 36; refine (addSec_any _ _ (r + 1000000000) (q - 1) _ (by simp) (by simp) (by simp) (by omega) (by omega) (by omega) (by omega)).mono ?_; rintro e w' ⟨rfl, rfl⟩))
  exact bodyPost_ret (v := .agg #[.int .u64 (r + 1000000000), .int .i64 (q - 1), .pointer none]) (by simp [results, Try.results28, go_sem]) rfl ⟨rfl, ((Below.refl _ _).alloc (Nat.le_refl _) _).alloc (by simp) _⟩

theorem tq (k : Int) : 1000000000 * k.tdiv 1000000000 + k.tmod 1000000000 = k ∧ -1000000000 < k.tmod 1000000000 ∧ k.tmod 1000000000 < 1000000000 :=
  ⟨Int.mul_tdiv_add_tmod k 1000000000, Int.lt_tmod_of_pos k (by omega), Int.tmod_lt_of_pos k (by omega)⟩
theorem add_any (k : Int) (w : World) (hk0 : -9223372036854775808 ≤ k) (hk1 : k ≤ 9223372036854775807) :
    Calls Try.prog 28 #[.agg #[.int .u64 0, .int .i64 0, .pointer none], .int .i64 k] w fun e w' => e = .returned (.agg #[.int .u64 (k % 1000000000), .int .i64 (k / 1000000000), .pointer none]) ∧ Below w.heap.size w w' := by
  have ht := tq k
  by_cases h : 0 ≤ k.tmod 1000000000
  · have h1 : k.tmod 1000000000 = k % 1000000000 := by omega
    have h2 : k.tdiv 1000000000 = k / 1000000000 := by omega
    exact add_pos k _ _ w h2 h1 hk0 hk1 (by omega) (by omega) (by omega) (by omega)
  · have h1 : k.tmod 1000000000 + 1000000000 = k % 1000000000 := by omega
    have h2 : k.tdiv 1000000000 - 1 = k / 1000000000 := by omega
    rw [← h1, ← h2]
    exact add_neg k _ _ w rfl rfl hk0 hk1 (by omega) (by omega) (by omega) (by omega)

set_option maxHeartbeats 400000 in
theorem bt_lt (n1 s1 n2 s2 : Int) (w : World) (h0 : 0 ≤ n1) (h1 : n1 < 1000000000) (h2 : 0 ≤ n2) (h3 : n2 < 1000000000) (hlt : s1 < s2) :
    Calls Try.prog 43 #[.agg #[.int .u64 n1, .int .i64 s1, .pointer none], .agg #[.int .u64 n2, .int .i64 s2, .pointer none]] w fun e w' => e = .returned (.bool true) ∧ Below w.heap.size w w' := by
  have e1 := and_and_hi n1 n2 h0 (by omega) h2 (by omega)
  go_enter Try.func43, Try.ntmps43
  go_wp2_with fail
  refine (sec_any _ _ n1 s1 _ (by simp) (by simp) (by omega) (by omega)).mono ?_; rintro e w' ⟨rfl, rfl⟩
  go_wp2_with fail
  refine (sec_any _ _ n2 s2 _ (by simp) (by simp) (by omega) (by omega)).mono ?_; rintro e w' ⟨rfl, rfl⟩
  go_wp2_with fail
  go_ret
  exact ⟨rfl, ((Below.refl _ _).alloc (Nat.le_refl _) _).alloc (by simp) _⟩

set_option maxHeartbeats 400000 in
theorem bt_gt (n1 s1 n2 s2 : Int) (w : World) (h0 : 0 ≤ n1) (h1 : n1 < 1000000000) (h2 : 0 ≤ n2) (h3 : n2 < 1000000000) (hlt : s2 < s1) :
    Calls Try.prog 43 #[.agg #[.int .u64 n1, .int .i64 s1, .pointer none], .agg #[.int .u64 n2, .int .i64 s2, .pointer none]] w fun e w' => e = .returned (.bool false) ∧ Below w.heap.size w w' := by
  have e1 := and_and_hi n1 n2 h0 (by omega) h2 (by omega)
  have d1 : decide (s1 < s2) = false := decide_eq_false (by omega)
  have d2 : (s1 == s2) = false := beq_eq_false_iff_ne.2 (by omega)
  go_enter Try.func43, Try.ntmps43
  go_wp2_with fail
  refine (sec_any _ _ n1 s1 _ (by simp) (by simp) (by omega) (by omega)).mono ?_; rintro e w' ⟨rfl, rfl⟩
  go_wp2_with fail
  refine (sec_any _ _ n2 s2 _ (by simp) (by simp) (by omega) (by omega)).mono ?_; rintro e w' ⟨rfl, rfl⟩
  go_wp2_with fail
  go_ret
  exact ⟨rfl, ((Below.refl _ _).alloc (Nat.le_refl _) _).alloc (by simp) _⟩

set_option maxHeartbeats 400000 in
theorem bt_eq (n1 s1 n2 : Int) (w : World) (h0 : 0 ≤ n1) (h1 : n1 < 1000000000) (h2 : 0 ≤ n2) (h3 : n2 < 1000000000) :
    Calls Try.prog 43 #[.agg #[.int .u64 n1, .int .i64 s1, .pointer none], .agg #[.int .u64 n2, .int .i64 s1, .pointer none]] w fun e w' => e = .returned (.bool (decide (n1 < n2))) ∧ Below w.heap.size w w' := by
  have e1 := and_and_hi n1 n2 h0 (by omega) h2 (by omega)
  go_enter Try.func43, Try.ntmps43
  go_wp2_with fail
  refine (sec_any _ _ n1 s1 _ (by simp) (by simp) (by omega) (by omega)).mono ?_; rintro e w' ⟨rfl, rfl⟩
  go_wp2_with fail
  refine (sec_any _ _ n2 s1 _ (by simp) (by simp) (by omega) (by omega)).mono ?_; rintro e w' ⟨rfl, rfl⟩
  go_wp2_with fail
  refine (nsec_any _ _ n1 _ (by simp) (by omega) (by omega)).mono ?_; rintro e w' ⟨rfl, rfl⟩
  go_wp2_with fail
  refine (nsec_any _ _ n2 _ (by simp) (by omega) (by omega)).mono ?_; rintro e w' ⟨rfl, rfl⟩
  go_wp2_with fail
  go_ret
  exact ⟨rfl, ((Below.refl _ _).alloc (Nat.le_refl _) _).alloc (by simp) _⟩

/-- 'Before' at two times that lie k1 and k2 nanoseconds behind the zero time: k1 < k2. -/
theorem before_time (k1 k2 : Int) (w : World) :
    Calls Try.prog 43 #[.agg #[.int .u64 (k1 % 1000000000), .int .i64 (k1 / 1000000000), .pointer none], .agg #[.int .u64 (k2 % 1000000000), .int .i64 (k2 / 1000000000), .pointer none]] w fun e w' => e = .returned (.bool (decide (k1 < k2))) ∧ Below w.heap.size w w' := by
  by_cases c1 : k1 / 1000000000 < k2 / 1000000000
  · have : decide (k1 < k2) = true := decide_eq_true (by omega)
    rw [this]; exact bt_lt _ _ _ _ w (by omega) (by omega) (by omega) (by omega) c1
  · by_cases c2 : k2 / 1000000000 < k1 / 1000000000
    · have : decide (k1 < k2) = false := decide_eq_false (by omega)
      rw [this]; exact bt_gt _ _ _ _ w (by omega) (by omega) (by omega) (by omega) c2
    · have e : k1 / 1000000000 = k2 / 1000000000 := by omega
      have : decide (k1 < k2) = decide (k1 % 1000000000 < k2 % 1000000000) := decide_eq_decide.2 (by omega)
      rw [this, e]; exact bt_eq _ _ _ w (by omega) (by omega) (by omega) (by omega)
end Go.Proofs.Qxb6612581a
