import Derived.Test.Qxb6609163aDoorNew
import Derived.WalkKit
import Derived.WalkSpells
import Derived.WalkLawsBesides
import Derived.Laws.CopyOwn
import Derived.Deep.OwnRows
import Derived.Deep.Cut
import Derived.WalkSmall
set_option linter.unusedVariables false
namespace Go.Proofs.Qxb6609163aDoor
open Go.RowKit

theorem Tryd.info9 : (Tryd.prog.info? 9).map (fun i => (i.zero, i.size, i.bytes)) = some (some (.string ByteArray.empty), 1, 16) := by kernel_rfl
theorem Tryd.size9 : (Tryd.prog.info? 9).map (·.size) = some 1 := by kernel_rfl

theorem Strs.below {w w' : World} {a : Option Addr} {n b off : Nat} {S : Nat → ByteArray} (h : Strs w a n b off S) (hb : Below w.heap.size w w') : Strs w' a n b off S := by
  refine ⟨h.1, fun i hi => ?_, h.2.2⟩
  have := h.2.1 i hi
  rw [hb.cell (block_lt_of_cell this)]; exact this

/-- what the copying of a slice of strings wants, ahead of the walk -/
structure CopyFacts (w : World) (x : Addr) (n : Nat) (S : Nat → ByteArray) (cs : List Value) : Prop where
  g1 : (w.alloc (.cells (madeCells #[.string ByteArray.empty] n) 9)).heap[w.heap.size]? = some (.cells (List.replicate n (Value.string ByteArray.empty)).toArray 9 (0, 0))
  g2 : cs.length = Nat.min n n
  g3 : 0 < cs.length → some (⟨w.heap.size, 0, none⟩ : Addr) = some ⟨w.heap.size, 0, none⟩ ∧ ∃ ad, some x = some ad ∧ ∀ j v, cs[j]? = some v → (w.alloc (.cells (madeCells #[.string ByteArray.empty] n) 9)).cell? (ad.add j) = some v
  g4 : 0 + cs.length ≤ (List.replicate n (Value.string ByteArray.empty)).length
  g5 : ∀ v ∈ cs, v.oneCell' = true
  g6 : Below w.heap.size w (w.alloc (.cells (madeCells #[.string ByteArray.empty] n) 9))
  done : ∀ w' : World, w'.heap[w.heap.size]? = some (.cells (splice (List.replicate n (Value.string ByteArray.empty)) 0 cs).toArray 9 (0, 0)) → Strs w' (some ⟨w.heap.size, 0, none⟩) n w.heap.size 0 S

theorem copyFacts (w : World) (x : Addr) (n b off : Nat) (S : Nat → ByteArray) (h : Strs w (some x) n b off S) : ∃ cs, CopyFacts w x n S cs := by
  have hcs : ∀ i, i < n → ((List.range n).map fun i => Value.string (S i))[i]? = some (.string (S i)) := fun i hi => by simp [hi]
  have hlen : ((List.range n).map fun i => Value.string (S i)).length = n := by simp
  refine ⟨(List.range n).map fun i => .string (S i), ?_, ?_, ?_, ?_, ?_, ?_, ?_⟩
  · have e : (List.replicate n (Value.string ByteArray.empty)).toArray = madeCells #[.string ByteArray.empty] n := by rw [← toList_madeCells_one]
    rw [e]; exact heap_alloc_new w _
  · rw [hlen]; exact (Nat.min_self n).symm
  · intro hp
    rw [hlen] at hp
    obtain rfl : x = ⟨b, off, none⟩ := by have := h.1 hp; injection this
    refine ⟨rfl, ⟨b, off, none⟩, rfl, fun j v hv => ?_⟩
    have hj : j < n := by have := (List.getElem?_eq_some_iff.1 hv).1; rw [hlen] at this; exact this
    rw [hcs j hj] at hv; injection hv with hv; subst hv
    have hc := h.2.1 j hj
    have ea : (⟨b, off, none⟩ : Addr).add j = ⟨b, off + j, none⟩ := by unfold Addr.add; split <;> simp_all
    rw [ea, World.cell?_alloc_lt _ _ _ (block_lt_of_cell hc)]; exact hc
  · rw [hlen]; simp
  · intro v hv
    obtain ⟨i, hi, rfl⟩ := List.mem_map.1 hv
    rfl
  · exact (Below.refl _ _).alloc (Nat.le_refl _) _
  · intro w' hw
    have e : splice (List.replicate n (Value.string ByteArray.empty)) 0 ((List.range n).map fun i => Value.string (S i)) = (List.range n).map fun i => Value.string (S i) := by unfold splice; simp
    rw [e] at hw
    refine ⟨fun _ => rfl, fun i hi => ?_, h.2.2⟩
    rw [Nat.zero_add, cell_of_row w' _ i _ _ _ hw]
    simpa using hcs i hi

set_option maxHeartbeats 400000 in
theorem main_any (a a' : Option Addr) (n c n' c' b off b' off' : Nat) (S S' : Nat → ByteArray) (w : World) (h : Strs w a n b off S) (h' : Strs w a' n' b' off' S') (hn' : n' ≤ 9223372036854775807)
    (a0 a1 : Addr) (ca cb : Array Value) (ta tb : TypeId) (v0 : w.cell? ⟨0, 0, none⟩ = some (.iface 54 (.pointer (some a0)))) (v1 : w.cell? ⟨1, 0, none⟩ = some (.iface 54 (.pointer (some a1))))
    (hne : a1 ≠ a0) (hb1 : w.heap[a1.block]? = some (.cells ca ta (0, 0))) (hb0 : w.heap[a0.block]? = some (.cells cb tb (0, 0))) :
    Calls Tryd.prog 3 #[.slice a n c, .slice a' n' c'] w fun e w' => e = .returned (.bool true) ∧ Below w.heap.size w w' := by
  have C4 := bytes4 a a' n c n' c' b off b' off' S S' w h h' hn'
  have C5 := names5 a a' n c n' c' b off b' off' S S' w h h'
  have HS : Hid (Strs w a n b off S) := h
  have HS' : Hid (Strs w a' n' b' off' S') := h'
  have HG : Hid (w.cell? ⟨0, 0, none⟩ = some (.iface 54 (.pointer (some a0))) ∧ w.cell? ⟨1, 0, none⟩ = some (.iface 54 (.pointer (some a1))) ∧ w.heap[a1.block]? = some (.cells ca ta (0, 0)) ∧ w.heap[a0.block]? = some (.cells cb tb (0, 0))) := ⟨v0, v1, hb1, hb0⟩
  clear h h' v0 v1 hb1 hb0
  go_enter Tryd.func3, Tryd.ntmps3
  go_wp2_with fail
  refine C4.mono ?_
  rintro e w' ⟨⟨r4, rfl⟩, hw'⟩
  replace hw' := hw'.symm
  subst hw'
  clear C4
  cases r4 with
  | false =>
    go_wp2_with fail
    go_ret
    exact ⟨rfl, Below.refl _ _⟩
  | true =>
    go_wp2_with fail
    refine C5.mono ?_
    rintro e w' ⟨⟨r5, rfl, hlen⟩, hw'⟩
    replace hw' := hw'.symm
    subst hw'
    clear C5
    cases r5 with
    | true =>
      go_wp2_with fail
      go_ret
      exact ⟨rfl, Below.refl _ _⟩
    | false =>
      obtain ⟨hn1, hn2⟩ := hlen rfl
      clear hlen hn'
      have nz := fun w => run_neq_slice_nil_any (P := Tryd.prog) w 22 9 a n c 0 0 Tryd.underlying22
      go_upto_if 17 with fail
      go_cut [0] from 9 (fun v wc => ∃ (x : Option Addr) (cx bx ox : Nat) (Sx : Nat → ByteArray), v = .slice x n cx ∧ Strs wc x n bx ox Sx ∧ Below w.heap.size w wc)
      case first =>
        cases a with
        | none =>
          go_wp2_with fail
          go_meet
          case rel => exact ⟨none, c, b, off, S, rfl, HS.out, Below.refl _ _⟩
        | some x =>
          obtain ⟨cs, F⟩ := copyFacts w x n b off S HS.out
          have HF : Hid (CopyFacts w x n S cs) := F
          have hmk := run_make_row' (P := Tryd.prog) 22 9 (.string ByteArray.empty) 16 Tryd.underlying22 Tryd.info9 rfl .i64 .i64 n (by omega) (by omega)
          clear F
          go_wp2_with (refine wpList_copy_splice (by rfl) (.tmp 21) (.tmp 22) 22 22 (by rfl) 9 Tryd.underlying22 Tryd.size9 (some ⟨w.heap.size, 0, none⟩) (some x) n n n c (by rfl) (by rfl) w.heap.size 0 (List.replicate n (.string ByteArray.empty)) 9 HF.out.g1 cs HF.out.g2 HF.out.g3 HF.out.g4 HF.out.g5 w.heap.size w HF.out.g6 (Nat.le_refl _) ?_; intro w1 HG1 HB1)
          go_meet
          case rel => exact ⟨_, _, w.heap.size, 0, S, rfl, HF.out.done w1 HG1.out, HB1⟩
      case rest =>
        obtain ⟨x, cx, bx, ox, Sx, rfl, hSx, hB⟩ := hcut
        have HSx : Hid (Strs wc x n bx ox Sx) := hSx
        have HS2 : Hid (Strs wc a' n' b' off' S') := HS'.out.below hB
        clear hSx HS HS' nz
        have nz := fun w => run_neq_slice_nil_any (P := Tryd.prog) w 22 9 a' n' c' 0 0 Tryd.underlying22
        go_upto_if 26 with fail
        rename World => w1
        go_cut [1] from 9 (fun v wc => ∃ (y : Option Addr) (cy bY oY : Nat) (Sy : Nat → ByteArray), v = .slice y n' cy ∧ Strs wc y n' bY oY Sy ∧ Below w1.heap.size w1 wc)
        case first =>
          cases a' with
          | none =>
            go_wp2_with fail
            go_meet
            case rel => exact ⟨none, c', b', off', S', rfl, HS2.out, Below.refl _ _⟩
          | some y =>
            obtain ⟨cs, F⟩ := copyFacts w1 y n' b' off' S' HS2.out
            have HF : Hid (CopyFacts w1 y n' S' cs) := F
            have hmk := run_make_row' (P := Tryd.prog) 22 9 (.string ByteArray.empty) 16 Tryd.underlying22 Tryd.info9 rfl .i64 .i64 n' (by omega) (by omega)
            clear F
            go_wp2_with (refine wpList_copy_splice (by rfl) (.tmp 30) (.tmp 31) 22 22 (by rfl) 9 Tryd.underlying22 Tryd.size9 (some ⟨w1.heap.size, 0, none⟩) (some y) n' n' n' c' (by rfl) (by rfl) w1.heap.size 0 (List.replicate n' (.string ByteArray.empty)) 9 HF.out.g1 cs HF.out.g2 HF.out.g3 HF.out.g4 HF.out.g5 w1.heap.size w1 HF.out.g6 (Nat.le_refl _) ?_; intro w2 HG1 HB1)
            go_meet
            case rel => exact ⟨_, _, w1.heap.size, 0, S', rfl, HF.out.done w2 HG1.out, HB1⟩
        case rest =>
          obtain ⟨y, cy, bY, oY, Sy, rfl, hSy, hB2⟩ := hcut
          rename World => w2
          have C6 := new6 x y n cx n' cy bx bY ox oY Sx Sy w2 (HSx.out.below hB2) hSy hn1 hn2
          have hB02 : Below w.heap.size w w2 := hB.trans (hB2.mono hB.size)
          clear nz HSx HS2 hSy hB hB2
          go_wp2_with fail
          refine C6.mono ?_
          rintro e w3 ⟨eb, rfl, hAF, heb, hB3⟩
          have hB03 : Below w.heap.size w w3 := hB02.trans (hB3.mono hB02.size)
          obtain ⟨k0, k1, k2, k3⟩ := HG.out
          have z0 : 0 < w.heap.size := block_lt_of_cell k0
          have z1 : 1 < w.heap.size := block_lt_of_cell k1
          have y2 : a1.block < w.heap.size := (Array.getElem?_eq_some_iff.1 k2).1
          have y3 : a0.block < w.heap.size := (Array.getElem?_eq_some_iff.1 k3).1
          have q0 : w3.cell? ⟨0, 0, none⟩ = some (.iface 54 (.pointer (some a0))) := by rw [hB03.cell z0]; exact k0
          have q1 : w3.cell? ⟨1, 0, none⟩ = some (.iface 54 (.pointer (some a1))) := by rw [hB03.cell z1]; exact k1
          have q2 : w3.heap[a1.block]? = some (.cells ca ta (0, 0)) := by rw [hB03.block _ y2]; exact k2
          have q3 : w3.heap[a0.block]? = some (.cells cb tb (0, 0)) := by rw [hB03.block _ y3]; exact k3
          obtain ⟨fb, hfb⟩ : ∃ fb, ((n : Int) == 0) = fb := ⟨_, rfl⟩
          have C7 := zz7 eb n a0 fb w3 hAF q0 hfb
          have C8 : Hid (∀ q, Calls Tryd.prog 8 #[.pointer (some ⟨eb, 0, none⟩)] (w3.drewN q) fun e w' => e = .returned (.bool fb) ∧ w' = w3.drewN q) := fun q => zz8 eb n a0 fb (w3.drewN q) hAF q0 hfb
          have C9 : Hid (∀ q, Calls Tryd.prog 9 #[.pointer (some ⟨eb, 0, none⟩)] (w3.drewN q) fun e w' => e = .returned (.bool false) ∧ ∃ q', w' = (w3.drewN q).drewN q') := fun q => zz9 eb n a0 a1 ca cb ta tb (w3.drewN q) hAF q0 q1 hne q2 q3
          clear C6 hAF q0 q1 q2 q3 k0 k1 k2 k3 hne
          go_wp2_with fail
          refine C7.mono ?_
          rintro e w4 ⟨rfl, q, rfl⟩
          clear C7
          go_wp2_with fail
          refine (C8.out q).mono ?_
          rintro e w5 ⟨rfl, hw5⟩
          replace hw5 := hw5.symm
          subst hw5
          go_wp2_with fail
          refine (C9.out q).mono ?_
          rintro e w5 ⟨rfl, q', rfl⟩
          go_wp2_with fail
          go_ret
          exact ⟨rfl, below_drewN hB03 _⟩
end Go.Proofs.Qxb6609163aDoor
