import Derived.Test.Qxb6609163aDoorRows
import Derived.WalkKit
import Derived.WalkSpells
import Derived.WalkLawsBesides
import Derived.LaidEql
import Derived.Stop.Asserts
import Derived.RowKitTokens
import Derived.BigQuiet
import Derived.Deep.QuietTactic
set_option linter.unusedVariables false
namespace Go.Proofs.Qxb6609163aDoor
open Go.RowKit Go.Extern.Stop Go.Stop Go.Extern

theorem Tryd.isTypeOf (v : Value) (w : World) : (Extern.ReflectliteType.typeOf #[.iface 54 v]).run Tryd.prog w = .ok (.iface 45 (.agg #[.pointer (some ⟨2, 54, none⟩)])) w := by kernel_rfl
theorem Tryd.isComparable (w : World) : ((Extern.ReflectliteType.method fun t => do Extern.Rtype.noPackHeld "Comparable" t; pure (.bool (← typeInfo t).comparable)) #[.agg #[.pointer (some ⟨2, 54, none⟩)]]).run Tryd.prog w = .ok (.bool true) w := by kernel_rfl
theorem Tryd.callComparable (w : World) : (callFunc 34 #[.agg #[.pointer (some ⟨2, 54, none⟩)]]).run Tryd.prog w = .ok (.value (.bool true)) w := by
  have h := @run_callFunc_extern Tryd.prog 34 _ (Extern.ReflectliteType.method fun t => do Extern.Rtype.noPackHeld "Comparable" t; pure (.bool (← typeInfo t).comparable)) Tryd.func34 (by kernel_rfl) (by kernel_rfl) (by kernel_rfl) (by kernel_rfl)
  rw [h, Tryd.isComparable]; rfl
theorem Tryd.isComp : (Tryd.prog.info? 54).map (·.comparable) = some true := by kernel_rfl
theorem Tryd.isSize : (Tryd.prog.info? 82).map (·.size) = some 1 := by kernel_rfl
theorem Tryd.hasIs (v : Value) (xT : TypeId) (w : World) : (Instr.typeAssert (.iface 24 v) xT 47 true).run Tryd.prog w = .ok (.tuple #[.iface 24 v, .bool true]) w := run_typeAssert_hasB Tryd.underlying47 (by kernel_rfl) v xT w
theorem Tryd.hasUnwrap (v : Value) (xT : TypeId) (w : World) : (Instr.typeAssert (.iface 24 v) xT 49 true).run Tryd.prog w = .ok (.tuple #[.iface 24 v, .bool true]) w := run_typeAssert_hasB Tryd.underlying49 (by kernel_rfl) v xT w

theorem Tryd.methodIs (v : Value) (w : World) : (Go.method 198 24 v "Is").run Tryd.prog w = .ok (11, v) w := by kernel_rfl
theorem Tryd.methodUnwrap (v : Value) (w : World) : (Go.method 198 24 v "Unwrap").run Tryd.prog w = .ok (30, v) w := by kernel_rfl
theorem Tryd.methodComparable (v : Value) (w : World) : (Go.method 198 45 v "Comparable").run Tryd.prog w = .ok (34, v) w := by kernel_rfl

set_option maxHeartbeats 400000 in
/-- e.Is(ErrNoEligibleUpstreams) -/
theorem is_own (eb n c : Nat) (av : Option Addr) (a : Addr) (w : World) (h0 : w.cell? ⟨0, 0, none⟩ = some (.iface 54 (.pointer (some a)))) (he : w.cell? ⟨eb, 0, none⟩ = some (.slice av n c)) (b : Bool) (hb : ((n : Int) == 0) = b) :
    Calls Tryd.prog 11 #[.pointer (some ⟨eb, 0, none⟩), .iface 54 (.pointer (some a))] w fun e w' => e = .returned (.bool b) ∧ w' = w := by
  obtain ⟨i, hi, hcmp⟩ := Option.map_eq_some_iff.1 Tryd.isComp
  obtain ⟨j, hj, hjs⟩ := Option.map_eq_some_iff.1 Tryd.isSize
  have heq := run_eql_iface_ptr_same (P := Tryd.prog) w a Tryd.underlying32 Tryd.underlying54 hi hcmp hj
  go_enter Tryd.func11, Tryd.ntmps11
  go_wp2
  go_ret
  exact ⟨rfl, rfl⟩

set_option maxHeartbeats 400000 in
/-- e.Is(ErrInvalidUpstream) -/
theorem is_alien (eb : Nat) (a a1 : Addr) (ca cb : Array Value) (ta tb : TypeId) (w : World) (h0 : w.cell? ⟨0, 0, none⟩ = some (.iface 54 (.pointer (some a)))) (hne : a1 ≠ a) (ha : w.heap[a1.block]? = some (.cells ca ta (0, 0))) (hb : w.heap[a.block]? = some (.cells cb tb (0, 0))) :
    Calls Tryd.prog 11 #[.pointer (some ⟨eb, 0, none⟩), .iface 54 (.pointer (some a1))] w fun e w' => e = .returned (.bool false) ∧ w' = w := by
  obtain ⟨i, hi, hcmp⟩ := Option.map_eq_some_iff.1 Tryd.isComp
  obtain ⟨j, hj, hjs⟩ := Option.map_eq_some_iff.1 Tryd.isSize
  have heq := run_eql_iface_ptr_other (P := Tryd.prog) w Tryd.underlying32 Tryd.underlying54 hi hcmp hj (by rw [hjs]; decide) hne ha hb
  go_enter Tryd.func11, Tryd.ntmps11
  go_wp2
  go_ret
  exact ⟨rfl, rfl⟩

set_option maxHeartbeats 400000 in
theorem unwrap_none (eb c : Nat) (av : Option Addr) (w : World) (he : w.cell? ⟨eb, 0, none⟩ = some (.slice av 0 c)) :
    Calls Tryd.prog 30 #[.pointer (some ⟨eb, 0, none⟩)] w fun e w' => e = .returned .nilIface ∧ w' = w := by
  go_enter Tryd.func30, Tryd.ntmps30
  go_wp2
  go_ret
  exact ⟨rfl, rfl⟩

set_option maxHeartbeats 400000 in
theorem unwrap_some (eb ab m c : Nat) (w : World) (he : w.cell? ⟨eb, 0, none⟩ = some (.slice (some ⟨ab, 0, none⟩) (m + 1) c)) (hm : m ≤ 1048576) (hx : w.cell? ⟨ab, m * 4 + 3, none⟩ = some .nilIface) :
    Calls Tryd.prog 30 #[.pointer (some ⟨eb, 0, none⟩)] w fun e w' => e = .returned .nilIface ∧ ∃ q, w' = w.drewN q := by
  have h1 : ((m : Int) + 1 == 0) = false := beq_eq_false_iff_ne.2 (by omega)
  have h2 : (m : Int) + 1 - 1 = (m : Int) := by omega
  have h3 : (0 : Int) ≤ (m : Int) := by omega
  have h4 : (m : Int) < (m : Int) + 1 := by omega
  go_enter Tryd.func30, Tryd.ntmps30
  go_wp2
  go_quiet (fail)
  go_wp2
  go_ret
  exact ⟨rfl, nq, rfl⟩

/-- what is known of the error that was made: how many attempts; the last one's Err is nil -/
def AF (w : World) (eb n : Nat) : Prop :=
  ∃ av c, w.cell? ⟨eb, 0, none⟩ = some (.slice av n c) ∧ n ≤ 1048576 ∧ (n = 0 ∨ ∃ ab, av = some ⟨ab, 0, none⟩ ∧ w.cell? ⟨ab, (n - 1) * 4 + 3, none⟩ = some .nilIface)

theorem unwrap_any (eb n : Nat) (w : World) (h : AF w eb n) :
    Calls Tryd.prog 30 #[.pointer (some ⟨eb, 0, none⟩)] w fun e w' => e = .returned .nilIface ∧ ∃ q, w' = w.drewN q := by
  obtain ⟨av, c, he, hn, h | ⟨ab, rfl, hx⟩⟩ := h
  · subst h
    refine (unwrap_none eb c av w he).mono ?_
    rintro e w' ⟨rfl, rfl⟩
    exact ⟨rfl, 0, rfl⟩
  · cases n with
    | zero =>
      refine (unwrap_none eb c _ w he).mono ?_
      rintro e w' ⟨rfl, rfl⟩
      exact ⟨rfl, 0, rfl⟩
    | succ m => exact unwrap_some eb ab m c w he (by omega) (by simpa using hx)

set_option maxHeartbeats 400000 in
/-- errors.is, where e.Is(target) says b -/
theorem is13 (eb n : Nat) (a : Addr) (b : Bool) (w : World) (h : AF w eb n)
    (hI : Calls Tryd.prog 11 #[.pointer (some ⟨eb, 0, none⟩), .iface 54 (.pointer (some a))] w fun e w' => e = .returned (.bool b) ∧ w' = w) :
    Calls Tryd.prog 13 #[.iface 24 (.pointer (some ⟨eb, 0, none⟩)), .iface 54 (.pointer (some a)), .bool true] w fun e w' => e = .returned (.bool b) ∧ ∃ q, w' = w.drewN q := by
  have t1 := Tryd.hasIs
  have t2 := Tryd.hasUnwrap
  have hty := run_eql_iface_types (P := Tryd.prog) 24 54 (.pointer (some ⟨eb, 0, none⟩)) (.pointer (some a)) Tryd.underlying32 (by decide) w
  have C := unwrap_any eb n w h
  clear h
  have m1 := Tryd.methodIs
  have m2 := Tryd.methodUnwrap
  have hnn := fun w => run_eql_iface_nil_left (P := Tryd.prog) w 24 (.pointer (some ⟨eb, 0, none⟩)) Tryd.underlying32
  cases b with
  | true =>
    go_enter Tryd.func13, Tryd.ntmps13
    go_wp2_with fail
    refine wp_loop_rounds 1 ?_
    rw [rounds_succ]
    go_wp2_with fail
    refine hI.mono ?_
    rintro e w' ⟨rfl, hw'⟩
    replace hw' := hw'.symm
    subst hw'
    go_wp2_with fail
    go_ret
    exact ⟨rfl, 0, rfl⟩
  | false =>
    go_enter Tryd.func13, Tryd.ntmps13
    go_wp2_with fail
    refine wp_loop_rounds 1 ?_
    rw [rounds_succ]
    go_wp2_with fail
    refine hI.mono ?_
    rintro e w' ⟨rfl, hw'⟩
    replace hw' := hw'.symm
    subst hw'
    go_wp2_with fail
    refine C.mono ?_
    rintro e w' ⟨rfl, q, rfl⟩
    go_wp2_with fail
    go_ret
    exact ⟨rfl, q, rfl⟩

set_option maxHeartbeats 400000 in
/-- errors.Is, where e.Is(target) says b -/
theorem is10 (eb n : Nat) (a : Addr) (b : Bool) (w : World) (h : AF w eb n)
    (hI : Calls Tryd.prog 11 #[.pointer (some ⟨eb, 0, none⟩), .iface 54 (.pointer (some a))] w fun e w' => e = .returned (.bool b) ∧ w' = w) :
    Calls Tryd.prog 10 #[.iface 24 (.pointer (some ⟨eb, 0, none⟩)), .iface 54 (.pointer (some a))] w fun e w' => e = .returned (.bool b) ∧ ∃ q, w' = w.drewN q := by
  have C := is13 eb n a b w h hI
  clear h hI
  have h12 := @run_callFunc_extern Tryd.prog 12 _ Extern.ReflectliteType.typeOf Tryd.func12 (by kernel_rfl) (by kernel_rfl) (by kernel_rfl) (by kernel_rfl)
  have h34 := Tryd.callComparable
  have tT := Tryd.isTypeOf
  have mR := Tryd.methodComparable
  go_enter Tryd.func10, Tryd.ntmps10
  go_wp2_with fail
  refine C.mono ?_
  rintro e w' ⟨rfl, q, rfl⟩
  clear C
  go_wp2_with fail
  go_ret
  exact ⟨rfl, q, rfl⟩

set_option maxHeartbeats 400000 in
theorem zz7 (eb n : Nat) (a : Addr) (b : Bool) (w : World) (h : AF w eb n) (h0 : w.cell? ⟨0, 0, none⟩ = some (.iface 54 (.pointer (some a)))) (hb : ((n : Int) == 0) = b) :
    Calls Tryd.prog 7 #[.pointer (some ⟨eb, 0, none⟩)] w fun e w' => e = .returned (.bool b) ∧ ∃ q, w' = w.drewN q := by
  have C := is10 eb n a b w h (by obtain ⟨av, c, he, _⟩ := h; exact is_own eb n c av a w h0 he b hb)
  clear h hb
  go_enter Tryd.func7, Tryd.ntmps7
  go_wp2_with fail
  refine C.mono ?_
  rintro e w' ⟨rfl, q, rfl⟩
  clear C
  go_wp2_with fail
  go_ret
  exact ⟨rfl, q, rfl⟩

set_option maxHeartbeats 400000 in
theorem zz8 (eb n : Nat) (a : Addr) (b : Bool) (w : World) (h : AF w eb n) (h0 : w.cell? ⟨0, 0, none⟩ = some (.iface 54 (.pointer (some a)))) (hb : ((n : Int) == 0) = b) :
    Calls Tryd.prog 8 #[.pointer (some ⟨eb, 0, none⟩)] w fun e w' => e = .returned (.bool b) ∧ w' = w := by
  have C : Calls Tryd.prog 11 #[.pointer (some ⟨eb, 0, none⟩), .iface 54 (.pointer (some a))] w fun e w' => e = .returned (.bool b) ∧ w' = w := by
    obtain ⟨av, c, he, _⟩ := h; exact is_own eb n c av a w h0 he b hb
  clear h hb
  go_enter Tryd.func8, Tryd.ntmps8
  go_wp2_with fail
  refine C.mono ?_
  rintro e w' ⟨rfl, hw'⟩
  replace hw' := hw'.symm
  subst hw'
  clear C
  go_wp2_with fail
  go_ret
  exact ⟨rfl, rfl⟩

set_option maxHeartbeats 400000 in
theorem zz9 (eb n : Nat) (a a1 : Addr) (ca cb : Array Value) (ta tb : TypeId) (w : World) (h : AF w eb n) (h0 : w.cell? ⟨0, 0, none⟩ = some (.iface 54 (.pointer (some a)))) (h1 : w.cell? ⟨1, 0, none⟩ = some (.iface 54 (.pointer (some a1))))
    (hne : a1 ≠ a) (ha : w.heap[a1.block]? = some (.cells ca ta (0, 0))) (hb : w.heap[a.block]? = some (.cells cb tb (0, 0))) :
    Calls Tryd.prog 9 #[.pointer (some ⟨eb, 0, none⟩)] w fun e w' => e = .returned (.bool false) ∧ ∃ q, w' = w.drewN q := by
  have C := is10 eb n a1 false w h (is_alien eb a a1 ca cb ta tb w h0 hne ha hb)
  clear h ha hb hne
  go_enter Tryd.func9, Tryd.ntmps9
  go_wp2_with fail
  refine C.mono ?_
  rintro e w' ⟨rfl, q, rfl⟩
  clear C
  go_wp2_with fail
  go_ret
  exact ⟨rfl, q, rfl⟩
end Go.Proofs.Qxb6609163aDoor
