import Derived.Test.Qxb6609163aDoorIs
import Derived.WalkKit
import Derived.WalkSpells
import Derived.WalkLawsBesides
set_option linter.unusedVariables false
namespace Go.Proofs.Qxb6609163aDoor
open Go.RowKit

/-- a slice of n strings: the first n cells -/
def Strs (w : World) (a : Option Addr) (n b off : Nat) (S : Nat → ByteArray) : Prop :=
  (0 < n → a = some ⟨b, off, none⟩) ∧ (∀ i, i < n → w.cell? ⟨b, off + i, none⟩ = some (.string (S i))) ∧ ∀ i, i < n → (S i).size ≤ 9223372036854775807

/-- some Boolean came back -/
def ABool (e : Ending) : Prop := ∃ r : Bool, e = .returned (.bool r)
theorem ABool.mk (r : Bool) : ABool (.returned (.bool r)) := ⟨r, rfl⟩

set_option maxHeartbeats 400000 in
theorem bytes4 (a a' : Option Addr) (n c n' c' b off b' off' : Nat) (S S' : Nat → ByteArray) (w : World) (h : Strs w a n b off S) (h' : Strs w a' n' b' off' S') (hn' : n' ≤ 9223372036854775807) :
    Calls Tryd.prog 4 #[.slice a n c, .slice a' n' c'] w fun e w' => ABool e ∧ w' = w := by
  by_cases h1 : 1048576 < n
  · go_enter Tryd.func4, Tryd.ntmps4
    go_wp2
    go_ret
    exact ⟨ABool.mk _, rfl⟩
  · have HH : Hid (Strs w a n b off S) := h
    have HH' : Hid (Strs w a' n' b' off' S') := h'
    clear h h'
    have d1 : decide ((1048576 : Int) < (n : Int)) = false := decide_eq_false (by omega)
    go_enter Tryd.func4, Tryd.ntmps4
    go_wp2
    go_loop [5, 6] (fun zv iv => ∃ (k : Nat) (z : Int), iv = .int .i64 k ∧ k ≤ n ∧ zv = .int .i64 z ∧ 0 ≤ z ∧ z ≤ 1048576) (fun _ iv => n - (intOf iv).toNat)
    case atStart => exact ⟨0, _, rfl, Nat.zero_le _, rfl, by omega, by omega⟩
    case round =>
      obtain ⟨k, z, rfl, hk, rfl, hz0, hz1⟩ := hrel
      by_cases hlt : k < n
      · obtain ⟨ha, hc, hs⟩ := HH.out
        obtain rfl := ha (by omega)
        have c1 := hc k hlt
        have s1 := hs k hlt
        clear ha hc hs HH HH'
        go_wp2
        all_goals first
          | (go_ret; exact ⟨ABool.mk _, rfl⟩)
          | (go_round
             case rel => exact ⟨k + 1, _, by go_num, by omega, rfl, by omega, by omega⟩
             case measure => simp [intOf]; omega)
      · clear HH
        by_cases h2 : 1048576 < n'
        · go_wp2
          go_ret
          exact ⟨ABool.mk _, rfl⟩
        · by_cases h3 : 1048576 < z + n'
          · go_wp2
            go_ret
            exact ⟨ABool.mk _, rfl⟩
          · have d2 : decide ((1048576 : Int) < (n' : Int)) = false := decide_eq_false (by omega)
            have d3 : decide ((1048576 : Int) < z + (n' : Int)) = false := decide_eq_false (by omega)
            go_wp2
            clear d2 d3
            obtain ⟨z', hz'⟩ : ∃ z', z + (n' : Int) = z' := ⟨_, rfl⟩
            go_loop [5, 7] (fun zv iv => ∃ (k : Nat) (z : Int), iv = .int .i64 k ∧ k ≤ n' ∧ zv = .int .i64 z ∧ 0 ≤ z ∧ z ≤ 1048576) (fun _ iv => n' - (intOf iv).toNat)
            case atStart => exact ⟨0, _, rfl, Nat.zero_le _, rfl, by omega, by omega⟩
            case round =>
              clear hz0 hz1 h3 hz'
              obtain ⟨k, z, rfl, hk, rfl, hz0, hz1⟩ := hrel
              by_cases hlt : k < n'
              · obtain ⟨ha, hc, hs⟩ := HH'.out
                obtain rfl := ha (by omega)
                have c1 := hc k hlt
                have s1 := hs k hlt
                clear ha hc hs HH'
                go_wp2
                all_goals first
                  | (go_ret; exact ⟨ABool.mk _, rfl⟩)
                  | (go_round
                     case rel => exact ⟨k + 1, _, by go_num, by omega, rfl, by omega, by omega⟩
                     case measure => simp [intOf]; omega)
              · go_wp2
                go_ret
                exact ⟨ABool.mk _, rfl⟩

/-- some Boolean came back; where it is false both slices are short -/
def AB5 (n n' : Nat) (e : Ending) : Prop := ∃ r : Bool, e = .returned (.bool r) ∧ (r = false → n ≤ 65536 ∧ n' ≤ 65536)
theorem AB5.mk {n n' : Nat} (r : Bool) (h : n ≤ 65536 ∧ n' ≤ 65536) : AB5 n n' (.returned (.bool r)) := ⟨r, rfl, fun _ => h⟩
theorem AB5.yes (n n' : Nat) : AB5 n n' (.returned (.bool true)) := ⟨true, rfl, fun h => by cases h⟩

set_option maxHeartbeats 400000 in
theorem names5_big (a a' : Option Addr) (n c n' c' : Nat) (w : World) (h : 65536 < n ∨ 65536 < n') :
    Calls Tryd.prog 5 #[.slice a n c, .slice a' n' c'] w fun e w' => AB5 n n' e ∧ w' = w := by
  by_cases h1 : 65536 < n
  · go_enter Tryd.func5, Tryd.ntmps5
    go_wp2
    go_ret
    exact ⟨AB5.yes _ _, rfl⟩
  · have h2 : 65536 < n' := by omega
    have d1 : decide ((65536 : Int) < (n : Int)) = false := decide_eq_false (by omega)
    go_enter Tryd.func5, Tryd.ntmps5
    go_wp2
    go_ret
    exact ⟨AB5.yes _ _, rfl⟩

set_option maxHeartbeats 400000 in
theorem names5_small (a a' : Option Addr) (n c n' c' b off b' off' : Nat) (S S' : Nat → ByteArray) (w : World) (h : Strs w a n b off S) (h' : Strs w a' n' b' off' S') (h1 : n ≤ 65536 ∧ n' ≤ 65536) :
    Calls Tryd.prog 5 #[.slice a n c, .slice a' n' c'] w fun e w' => AB5 n n' e ∧ w' = w := by
  have HH : Hid (Strs w a n b off S) := h
  have HH' : Hid (Strs w a' n' b' off' S') := h'
  have H1 : Hid (n ≤ 65536 ∧ n' ≤ 65536) := h1
  have g1 := h1.1
  have g2 := h1.2
  clear h h' h1
  have d1 : decide ((65536 : Int) < (n : Int)) = false := decide_eq_false (by omega)
  have d2 : decide ((65536 : Int) < (n' : Int)) = false := decide_eq_false (by omega)
  go_enter Tryd.func5, Tryd.ntmps5
  go_wp2
  clear d1 d2
  go_loop [5, 6] (fun zv iv => ∃ (k : Nat) (z : Int), iv = .int .i64 k ∧ k ≤ n ∧ zv = .int .i64 z) (fun _ iv => n - (intOf iv).toNat)
  case atStart => exact ⟨0, _, rfl, Nat.zero_le _, rfl⟩
  case round =>
    obtain ⟨k, z, rfl, hk, rfl⟩ := hrel
    by_cases hlt : k < n
    · obtain ⟨ha, hc, hs⟩ := HH.out
      obtain rfl := ha (by omega)
      have c1 := hc k hlt
      clear ha hc hs HH HH'
      go_wp2
      all_goals first
        | (go_ret; exact ⟨AB5.mk _ H1.out, rfl⟩)
        | (go_round
           case rel => exact ⟨k + 1, _, by go_num, by omega, rfl⟩
           case measure => simp [intOf]; omega)
    · clear HH
      go_wp2
      go_loop [5, 7] (fun zv iv => ∃ (k : Nat) (z : Int), iv = .int .i64 k ∧ k ≤ n' ∧ zv = .int .i64 z) (fun _ iv => n' - (intOf iv).toNat)
      case atStart => exact ⟨0, _, rfl, Nat.zero_le _, rfl⟩
      case round =>
        obtain ⟨k, z, rfl, hk, rfl⟩ := hrel
        by_cases hlt : k < n'
        · obtain ⟨ha, hc, hs⟩ := HH'.out
          obtain rfl := ha (by omega)
          have c1 := hc k hlt
          clear ha hc hs HH'
          go_wp2
          all_goals first
            | (go_ret; exact ⟨AB5.mk _ H1.out, rfl⟩)
            | (go_round
               case rel => exact ⟨k + 1, _, by go_num, by omega, rfl⟩
               case measure => simp [intOf]; omega)
        · go_wp2
          go_ret
          exact ⟨AB5.mk _ H1.out, rfl⟩

theorem names5 (a a' : Option Addr) (n c n' c' b off b' off' : Nat) (S S' : Nat → ByteArray) (w : World) (h : Strs w a n b off S) (h' : Strs w a' n' b' off' S') :
    Calls Tryd.prog 5 #[.slice a n c, .slice a' n' c'] w fun e w' => AB5 n n' e ∧ w' = w := by
  by_cases h1 : n ≤ 65536 ∧ n' ≤ 65536
  · exact names5_small a a' n c n' c' b off b' off' S S' w h h' h1
  · exact names5_big a a' n c n' c' w (by omega)
end Go.Proofs.Qxb6609163aDoor
