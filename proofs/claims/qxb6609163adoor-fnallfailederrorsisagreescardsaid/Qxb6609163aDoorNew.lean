import Derived.Test.Qxb6609163aDoorSizes
import Derived.WalkKit
import Derived.WalkSpells
import Derived.WalkLawsBesides
import Derived.Deep.AppendLies
set_option linter.unusedVariables false
namespace Go.Proofs.Qxb6609163aDoor
open Go.RowKit

theorem Tryd.info34 : (Tryd.prog.info? 34).map (fun i => (i.zero, i.size, i.bytes)) = some (some (.agg #[.string ByteArray.empty, .int .i64 0, .int .i64 0, .nilIface]), 4, 48) := by kernel_rfl
theorem Tryd.info36 : (Tryd.prog.info? 36).map (fun i => (i.zero, i.size, i.bytes)) = some (some (.agg #[.string ByteArray.empty, .string ByteArray.empty]), 2, 32) := by kernel_rfl

theorem own_far {w : World} {base : Nat} {e : TypeId} {size : Nat} {v : Value} {n : Nat} {xs : List Value} (h : w.ownsRow base e size v n xs) {k : Nat} (hk : k < base) : some k ≠ v.ownBlock := by
  intro e1
  have := h.lt k e1.symm
  omega

theorem far2 {wr w1 : World} {o : Obj} {base eb k : Nat} {e : TypeId} {size : Nat} {v : Value} {xs : List Value} (hO : wr.ownsRow base e size v k xs) (hg : (wr.alloc o).grownBy w1 v.ownBlock) (hz : eb < wr.heap.size) (hb : eb < base) :
    (∀ j, w1.cell? ⟨eb, j, none⟩ = wr.cell? ⟨eb, j, none⟩) ∧ ∀ j, w1.frozen? ⟨eb, j, none⟩ = wr.frozen? ⟨eb, j, none⟩ := by
  have hw : (wr.alloc o).heap[eb]? = wr.heap[eb]? := Below.heap_alloc wr o eb hz
  have hl : eb < (wr.alloc o).heap.size := by simp; omega
  refine ⟨fun j => ?_, fun j => ?_⟩
  · rw [hg.cell_far ⟨eb, j, none⟩ hl (own_far hO hb)]; exact World.cell?_of_block (a := ⟨eb, j, none⟩) hw
  · rw [hg.frozen_far ⟨eb, j, none⟩ hl (own_far hO hb)]; exact World.frozen?_of_block (a := ⟨eb, j, none⟩) hw

/-- the round's end: an element was appended and the field stored -/
theorem own_below {wr w1 w : World} {o : Obj} {B base k : Nat} {e : TypeId} {size : Nat} {v : Value} {xs : List Value} (hO : wr.ownsRow base e size v k xs) (hg : (wr.alloc o).grownBy w1 v.ownBlock) (hB : Below B w wr) (hz : B < wr.heap.size) (hb : B ≤ base) : Below B w w1 ∧ B < w1.heap.size := by
  have h1 : Below B w (wr.alloc o) := hB.alloc (Nat.le_of_lt hz) o
  refine ⟨h1.grown hg (by simp; omega) (fun g e1 => ?_), ?_⟩
  · have := (hO.lt g e1).1; omega
  · have := hg.size; simp at this; omega

/-- the last attempt's Err, in a block below 'base' that is not the struct's -/
def Last (w : World) (av : Option Addr) (n base eb : Nat) : Prop :=
  n = 0 ∨ ∃ ab, av = some ⟨ab, 0, none⟩ ∧ w.cell? ⟨ab, (n - 1) * 4 + 3, none⟩ = some .nilIface ∧ ab < base ∧ eb < ab

theorem Last.of_own {w : World} {av : Option Addr} {n cv eb : Nat} {xs : List Value} (h : w.ownsRow (eb + 1) 34 4 (.slice av n cv) n xs) (hx : 0 < n → xs[(n - 1) * 4 + 3]? = some .nilIface) : Last w av n w.heap.size eb := by
  rcases Nat.eq_zero_or_pos n with h0 | h0
  · exact .inl h0
  · right
    obtain ⟨g, cap, hv, hg, hl⟩ := h.form h0
    have e1 : av = some ⟨g, 0, none⟩ := by injection hv
    have e2 : cv = cap := by injection hv
    subst e1 e2
    refine ⟨g, rfl, ?_, hl, by omega⟩
    rw [h.cellAt _ (by omega)]; exact hx h0

theorem Last.next {wr w1 : World} {o : Obj} {base eb k n j : Nat} {av : Option Addr} {e : TypeId} {size : Nat} {v u : Value} {xs : List Value} (h : Last wr av n base eb) (hbase : base ≤ wr.heap.size) (hO : wr.ownsRow base e size v k xs) (hg : (wr.alloc o).grownBy w1 v.ownBlock) : Last (w1.setCell ⟨eb, j, none⟩ u) av n base eb := by
  rcases h with h | ⟨ab, rfl, hc, hl, hne⟩
  · exact .inl h
  · refine .inr ⟨ab, rfl, ?_, hl, hne⟩
    have := (far2 hO hg (eb := ab) (by omega) hl).1 ((n - 1) * 4 + 3)
    rw [World.cell?_setCell_other _ _ _ _ (by intro e1; injection e1; omega), this]; exact hc

theorem grown_below {B : Nat} {w0 w w' : World} {row : Option Nat} (h : Below B w0 w) (hg : w.grownBy w' row) (hB : B ≤ w.heap.size) (hr : ∀ k, row = some k → B ≤ k) : Below B w0 w' := h.grown hg hB hr

set_option maxHeartbeats 400000 in
theorem new6 (a a' : Option Addr) (n c n' c' b b' off off' : Nat) (S S' : Nat → ByteArray) (w : World) (h : Strs w a n b off S) (h' : Strs w a' n' b' off' S') (hn : n ≤ 65536) (hn' : n' ≤ 65536) :
    Calls Tryd.prog 6 #[.slice a n c, .slice a' n' c'] w fun e w' => ∃ eb, e = .returned (.pointer (some ⟨eb, 0, none⟩)) ∧ AF w' eb n ∧ eb < w'.heap.size ∧ Below w.heap.size w w' := by
  have HH : Hid (Strs w a n b off S) := h
  have HH' : Hid (Strs w a' n' b' off' S') := h'
  clear h h'
  obtain ⟨i0, hi0, hi1, hi2, hi3⟩ := info_parts Tryd.info34
  obtain ⟨j0, hj0, hj1, hj2, hj3⟩ := info_parts Tryd.info36
  have I34 : Hid (Tryd.prog.info? 34 = some i0 ∧ i0.zero = some (.agg #[.string ByteArray.empty, .int .i64 0, .int .i64 0, .nilIface]) ∧ i0.size = 4 ∧ i0.bytes = 48) := ⟨hi0, hi1, hi2, hi3⟩
  have I36 : Hid (Tryd.prog.info? 36 = some j0 ∧ j0.zero = some (.agg #[.string ByteArray.empty, .string ByteArray.empty]) ∧ j0.size = 2 ∧ j0.bytes = 32) := ⟨hj0, hj1, hj2, hj3⟩
  clear hi0 hi1 hi2 hi3 hj0 hj1 hj2 hj3
  go_enter Tryd.func6, Tryd.ntmps6
  go_wp2
  go_loopw [14] (fun iv wr => ∃ (k : Nat) (av : Option Addr) (cv : Nat) (xs : List Value), iv = .int .i64 k ∧ k ≤ n ∧ Below w.heap.size w wr ∧ w.heap.size < wr.heap.size ∧
      wr.cell? ⟨w.heap.size, 0, none⟩ = some (.slice av k cv) ∧ wr.frozen? ⟨w.heap.size, 0, none⟩ = false ∧ wr.cell? ⟨w.heap.size, 1, none⟩ = some (.slice none 0 0) ∧ wr.frozen? ⟨w.heap.size, 1, none⟩ = false ∧
      wr.ownsRow (w.heap.size + 1) 34 4 (.slice av k cv) k xs ∧ (0 < k → xs[(k - 1) * 4 + 3]? = some .nilIface)) (fun iv _ => n - (intOf iv).toNat)
  case atStart => exact ⟨0, none, 0, [], rfl, Nat.zero_le _, (Below.refl _ _).alloc (Nat.le_refl _) _, by simp, by simp, by simp, by simp, by simp, World.ownsRow_nil _ _ _ _, fun h => by omega⟩
  case round =>
    obtain ⟨k, av, cv, xs, rfl, hk, hB, hz, c0, f0, c1, f1, hown, hx⟩ := hrel
    by_cases hlt : k < n
    · obtain ⟨ha, hc, hs⟩ := HH.out
      obtain rfl := ha (by omega)
      have cs : wr.cell? ⟨b, off + k, none⟩ = some (.string (S k)) := by
        have := hc k hlt
        rw [hB.cell (block_lt_of_cell this)]; exact this
      clear ha hc hs HH HH'
      have HO : Hid (wr.ownsRow (w.heap.size + 1) 34 4 (.slice av k cv) k xs) := hown
      have hxl : xs.length = k * 4 := hown.1
      have g1 : Hid (∀ j u, [Value.string (S k), .int .i64 0, .int .i64 0, .nilIface][j]? = some u → (wr.alloc (.cells #[.string (S k), .int .i64 0, .int .i64 0, .nilIface] 34)).cell? ((⟨wr.heap.size, 0, none⟩ : Addr).add j) = some u) := World.news_of_block (heap_alloc_new wr (.cells #[.string (S k), .int .i64 0, .int .i64 0, .nilIface] 34))
      have g2 : Hid (∀ u ∈ [Value.string (S k), .int .i64 0, .int .i64 0, .nilIface], u.oneCell' = true) := by
        intro u hu; simp at hu; rcases hu with rfl | rfl | rfl <;> rfl
      clear hown hx
      go_wp2_with (at_builtin; refine wpList_append_lies _ (by rfl) (.tmp 22) (.tmp 25) 27 (by rfl) (w.heap.size + 1) 34 i0 (.agg #[.string ByteArray.empty, .int .i64 0, .int .i64 0, .nilIface]) 4 48 Tryd.underlying27 I34.out.1 I34.out.2.1 I34.out.2.2.1 I34.out.2.2.2 rfl (by decide) (.slice av k cv) k xs (by rfl) (HO.out.alloc _) ⟨wr.heap.size, 0, none⟩ 1 1 [.string (S k), .int .i64 0, .int .i64 0, .nilIface] (by rfl) rfl g1 g2 (by decide) (by unfold maxLen; omega) (by omega) (by simp; omega) (wr.heap.size + 1) (by simp) ?_; intro g cap w1 hown1 hgrow1 hat1 hlt1; obtain ⟨fc, ff⟩ := far2 HO.out hgrow1 hz (Nat.lt_succ_self _); have d0 := (fc 0).trans c0; have e0 := (ff 0).trans f0; have d1 := (fc 1).trans c1; have e1 := (ff 1).trans f1; have hbel := own_below HO.out hgrow1 hB hz (Nat.le_succ _); clear fc ff hat1 hgrow1)
      go_roundw
      case rel =>
        refine ⟨k + 1, _, _, _, by go_num, by omega, hbel.1.setCell (Nat.le_refl _) _, by simpa using hbel.2, ?_, ?_, ?_, ?_, ownsRow_setCell_below hown1 (Nat.lt_succ_self _) _, fun _ => ?_⟩
        · exact World.cell?_setCell_same _ _ _ d0
        · rw [World.frozen?_setCell]; exact e0
        · rw [World.cell?_setCell_other _ _ _ _ (by simp)]; exact d1
        · rw [World.frozen?_setCell]; exact e1
        · have e2 : (k + 1 - 1) * 4 + 3 = xs.length + 3 := by omega
          rw [e2, List.getElem?_append_right (by omega)]; simp
      case measure => simp [intOf]; omega
    · obtain rfl : k = n := by omega
      have hL := Last.of_own hown hx
      clear HH hown hx hlt
      go_wp2
      rename World => w2
      go_loopw [32] (fun iv ww => ∃ (m : Nat) (sv : Option Addr) (cs : Nat) (ys : List Value), iv = .int .i64 m ∧ m ≤ n' ∧ Below w.heap.size w ww ∧ w2.heap.size ≤ ww.heap.size ∧
          ww.cell? ⟨w.heap.size, 0, none⟩ = some (.slice av k cv) ∧ ww.cell? ⟨w.heap.size, 1, none⟩ = some (.slice sv m cs) ∧ ww.frozen? ⟨w.heap.size, 1, none⟩ = false ∧
          ww.ownsRow w2.heap.size 36 2 (.slice sv m cs) m ys ∧ Last ww av k w2.heap.size w.heap.size) (fun iv _ => n' - (intOf iv).toNat)
      case atStart => exact ⟨0, none, 0, [], rfl, Nat.zero_le _, hB, Nat.le_refl _, c0, c1, f1, World.ownsRow_nil _ _ _ _, hL⟩
      case round =>
        clear c0 c1 f0 f1 hL hB
        obtain ⟨m, sv, cs, ys, rfl, hm, hB, hw2, c0, c1, f1, hown, hL⟩ := hrel
        by_cases hlt : m < n'
        · obtain ⟨ha, hc, hs⟩ := HH'.out
          obtain rfl := ha (by omega)
          have cst : wr.cell? ⟨b', off' + m, none⟩ = some (.string (S' m)) := by
            have := hc m hlt
            rw [hB.cell (block_lt_of_cell this)]; exact this
          clear ha hc hs HH'
          have HO : Hid (wr.ownsRow w2.heap.size 36 2 (.slice sv m cs) m ys) := hown
          have HL : Hid (Last wr av k w2.heap.size w.heap.size) := hL
          have g1 : Hid (∀ j u, [Value.string (S' m), .string ByteArray.empty][j]? = some u → (wr.alloc (.cells #[.string (S' m), .string ByteArray.empty] 36)).cell? ((⟨wr.heap.size, 0, none⟩ : Addr).add j) = some u) := World.news_of_block (heap_alloc_new wr (.cells #[.string (S' m), .string ByteArray.empty] 36))
          have g2 : Hid (∀ u ∈ [Value.string (S' m), .string ByteArray.empty], u.oneCell' = true) := by
            intro u hu; simp at hu; rcases hu with rfl | rfl <;> rfl
          have hzz : w.heap.size < wr.heap.size := by omega
          clear hown hL
          go_wp2_with (at_builtin; refine wpList_append_lies _ (by rfl) (.tmp 40) (.tmp 43) 28 (by rfl) w2.heap.size 36 j0 (.agg #[.string ByteArray.empty, .string ByteArray.empty]) 2 32 Tryd.underlying28 I36.out.1 I36.out.2.1 I36.out.2.2.1 I36.out.2.2.2 rfl (by decide) (.slice sv m cs) m ys (by rfl) (HO.out.alloc _) ⟨wr.heap.size, 0, none⟩ 1 1 [.string (S' m), .string ByteArray.empty] (by rfl) rfl g1 g2 (by decide) (by unfold maxLen; omega) (by omega) (by simp; omega) (wr.heap.size + 1) (by simp) ?_; intro g cap w1 hown1 hgrow1 hat1 hlt1; obtain ⟨fc, ff⟩ := far2 HO.out hgrow1 hzz hz; have d0 := (fc 0).trans c0; have d1 := (fc 1).trans c1; have e1 := (ff 1).trans f1; have hbel := own_below HO.out hgrow1 hB hzz (Nat.le_of_lt hz); have HG1 : Hid _ := hgrow1; clear fc ff hat1 hgrow1)
          go_roundw
          case rel =>
            refine ⟨m + 1, _, _, _, by go_num, by omega, hbel.1.setCell (Nat.le_refl _) _, ?_, ?_, ?_, ?_, ownsRow_setCell_below hown1 hz _, HL.out.next hw2 HO.out HG1.out⟩
            · have := HG1.out.size; simp at this; simp; omega
            · rw [World.cell?_setCell_other _ _ _ _ (by simp)]; exact d0
            · exact World.cell?_setCell_same _ _ _ d1
            · rw [World.frozen?_setCell]; exact e1
          case measure => simp [intOf]; omega
        · go_wp2
          go_ret
          refine ⟨_, rfl, ⟨av, cv, c0, by omega, ?_⟩, by omega, hB⟩
          rcases hL with h | ⟨ab, h1, h2, _⟩
          · exact .inl h
          · exact .inr ⟨ab, h1, h2⟩
end Go.Proofs.Qxb6609163aDoor
