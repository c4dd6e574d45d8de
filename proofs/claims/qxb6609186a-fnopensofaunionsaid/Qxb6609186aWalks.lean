import Derived.Test.Qxb6609186aRows
import Derived.WalkKit
import Derived.WalkSpells
import Derived.WalkLawsBesides
import Derived.Deep.RegionWith
set_option linter.unusedVariables false
namespace Go.Proofs.Qxb6609186a
open Go.RowKit

set_option maxHeartbeats 400000 in
theorem new4 (c r : Int) (o u : Bool) (w : World) :
    Calls Try.prog 4 #[.int .u16 c, .bool o, .bool u, .int .u8 r] w fun e w' => e = .returned (.agg #[.int .u16 c, .bool o, .bool u, .int .u8 r]) ∧ w' = w.alloc (.cells #[.int .u16 c, .bool o, .bool u, .int .u8 r] 26) := by
  go_enter Try.func4, Try.ntmps4
  go_wp2
  exact bodyPost_ret (v := .agg #[.int .u16 c, .bool o, .bool u, .int .u8 r]) (by simp [results, Try.results4, go_sem]) rfl ⟨rfl, rfl⟩

set_option maxHeartbeats 400000 in
/-- 'Opens' -/
theorem opens5 (c r : Int) (o u : Bool) (b : Bool) (w : World) (hb : (c != 0 || o || u) = b) :
    Calls Try.prog 5 #[.agg #[.int .u16 c, .bool o, .bool u, .int .u8 r]] w fun e w' => e = .returned (.bool b) ∧ w' = w.alloc (.cells #[.int .u16 c, .bool o, .bool u, .int .u8 r] 26) := by
  by_cases hc : c = 0
  · subst hc
    obtain rfl : (o || u) = b := by simpa using hb
    clear hb
    cases o <;> cases u <;> (
      go_enter Try.func5, Try.ntmps5
      go_wp2
      go_ret
      exact ⟨rfl, rfl⟩)
  · have hc' : (c != 0) = true := by simpa using hc
    obtain rfl : true = b := by rw [← hb, hc']; rfl
    clear hb
    go_enter Try.func5, Try.ntmps5
    go_wp2
    go_ret
    exact ⟨rfl, rfl⟩

theorem or_zero_iff (a b : Int) (h0 : 0 ≤ a) (h1 : a < 65536) (g0 : 0 ≤ b) (g1 : b < 65536) : (bits .or .u16 a b != 0) = (a != 0 || b != 0) := by
  rw [u16_or a b h0 h1 g0 g1]
  by_cases ha : a = 0
  · subst ha
    have e : (((0 : Int).toNat ||| b.toNat : Nat) : Int) = b := by simp; omega
    rw [e]; rfl
  · have e : (a != 0) = true := by simpa using ha
    rw [e, Bool.true_or]
    have : a.toNat ≤ a.toNat ||| b.toNat := Nat.left_le_or
    simp; omega

set_option maxHeartbeats 2000000 in
theorem union_any (c1 c2 r1 r2 cc rr : Int) (z o1 u1 o2 u2 A B : Bool) (w : World) (hcc : bits .or .u16 c1 c2 = cc) (hrr : bits .or .u8 r1 r2 = rr) (hz : (c1 == 0) = z)
    (hA' : (!z || o1 || u1) = A) (hA : (c1 != 0 || o1 || u1) = A) (hB : (c2 != 0 || o2 || u2) = B) (hAB : (cc != 0 || (o1 || o2) || (u1 || u2)) = (A || B)) :
    Calls Try.prog 3 #[.int .u16 c1, .bool o1, .bool u1, .int .u8 r1, .int .u16 c2, .bool o2, .bool u2, .int .u8 r2] w fun e w' => e = .returned (.bool true) ∧ Below w.heap.size w w' := by
  have HA : Hid ((c1 != 0 || o1 || u1) = A) := hA
  have HB : Hid ((c2 != 0 || o2 || u2) = B) := hB
  have HAB : Hid ((cc != 0 || (o1 || o2) || (u1 || u2)) = (A || B)) := hAB
  clear hA hB hAB
  subst hA'
  cases z <;> cases o1 <;> cases u1 <;> cases B <;> (
    go_enter Try.func3, Try.ntmps3
    go_wp2_with (go_at_call 4; refine (new4 _ _ _ _ _).mono ?_; rintro e w' ⟨rfl, rfl⟩)
    refine (opens5 c1 r1 _ _ _ _ HA.out).mono ?_
    rintro e w' ⟨rfl, rfl⟩
    go_wp2_with fail
    refine (opens5 cc rr _ _ _ _ HAB.out).mono ?_
    rintro e w' ⟨rfl, rfl⟩
    go_wp2_with fail
    try (go_at_call_of 5 c2; refine (opens5 c2 r2 _ _ _ _ HB.out).mono ?_; rintro e w' ⟨rfl, rfl⟩; go_wp2_with fail)
    refine (opens5 c1 r2 _ _ _ _ HA.out).mono ?_
    rintro e w' ⟨rfl, rfl⟩
    go_wp2_with fail
    go_ret
    refine ⟨rfl, ?_⟩
    repeat (refine Below.alloc ?_ (by simp; try omega) _)
    exact Below.refl _ _)
end Go.Proofs.Qxb6609186a
