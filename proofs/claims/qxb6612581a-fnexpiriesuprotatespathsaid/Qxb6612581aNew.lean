import Derived.Test.Qxb6612581aClone
import Derived.WalkKit
import Derived.WalkSpells
import Derived.WalkLawsBesides
set_option linter.unusedVariables false
namespace Go.Proofs.Qxb6612581a
open Go.RowKit

theorem Try.info50 : (Try.prog.info? 50).map (fun i => (i.zero, i.size, i.bytes)) = some (some (.pointer none), 1, 8) := by kernel_rfl

/-- while the holds are made: the first k of n are laid -/
structure Mk (w : World) (hb n k : Nat) (P : Nat → Nat) (K : Nat → Int) : Prop where
  row : Row w hb n (fun i => .pointer (some ⟨P i, 0, none⟩)) k
  tag : ∀ t, t < k → w.cell? ⟨P t, 3, none⟩ = some (.int .i64 t)
  t7 : ∀ t, t < k → w.cell? ⟨P t, 7, none⟩ = some (.int .u64 (K t % 1000000000))
  t8 : ∀ t, t < k → w.cell? ⟨P t, 8, none⟩ = some (.int .i64 (K t / 1000000000))
  t9 : ∀ t, t < k → w.cell? ⟨P t, 9, none⟩ = some (.pointer none)
  idx : ∀ t, t < k → w.cell? ⟨P t, 10, none⟩ = some (.int .i64 t)
  ifz : ∀ t, t < k → w.frozen? ⟨P t, 10, none⟩ = false
  lo : ∀ t, t < k → hb < P t
  hi : hb < w.heap.size ∧ ∀ t, t < k → P t < w.heap.size
  inj : ∀ s t, s < k → t < k → P s = P t → s = t

/-- the fourteen cells of a hold -/
def hold (t k : Int) : Array Value := #[.string ByteArray.empty, .pointer none, .string ByteArray.empty, .int .i64 t, .int .i64 0, .pointer none, .int .i64 0, .int .u64 (k % 1000000000), .int .i64 (k / 1000000000), .pointer none, .int .i64 t, .int .i64 0, .int .u64 0, .bool false]

theorem Mk.below {w w' : World} {hb n k : Nat} {P : Nat → Nat} {K : Nat → Int} (h : Mk w hb n k P K) (b : Below w.heap.size w w') : Mk w' hb n k P K where
  row := h.row.below b h.hi.1
  tag t ht := by rw [b.cell (h.hi.2 t ht)]; exact h.tag t ht
  t7 t ht := by rw [b.cell (h.hi.2 t ht)]; exact h.t7 t ht
  t8 t ht := by rw [b.cell (h.hi.2 t ht)]; exact h.t8 t ht
  t9 t ht := by rw [b.cell (h.hi.2 t ht)]; exact h.t9 t ht
  idx t ht := by rw [b.cell (h.hi.2 t ht)]; exact h.idx t ht
  ifz t ht := by rw [b.frozen (h.hi.2 t ht)]; exact h.ifz t ht
  lo := h.lo
  hi := ⟨Nat.lt_of_lt_of_le h.hi.1 b.size, fun t ht => Nat.lt_of_lt_of_le (h.hi.2 t ht) b.size⟩
  inj := h.inj

theorem Mk.next {w : World} {hb n k : Nat} {P : Nat → Nat} {K : Nat → Int} (h : Mk w hb n k P K) (hlt : k < n) {x : Int} (hx : K k = x) :
    Mk ((w.alloc (.cells (hold k x) 61)).setCell ⟨hb, k, none⟩ (.pointer (some ⟨w.heap.size, 0, none⟩))) hb n (k + 1) (fun t => if t = k then w.heap.size else P t) K := by
  have h1 := h.below ((Below.refl _ _).alloc (Nat.le_refl _) (.cells (hold k x) 61))
  have hlt1 := h.hi.1
  have new : ∀ o v, (hold k x)[o]? = some v → ((w.alloc (.cells (hold k x) 61)).setCell ⟨hb, k, none⟩ (.pointer (some ⟨w.heap.size, 0, none⟩))).cell? ⟨w.heap.size, o, none⟩ = some v := by
    intro o v hv
    rw [co (.inl (by omega)), World.cell?_alloc_new]; exact hv
  have old : ∀ t o, t < k → ((w.alloc (.cells (hold k x) 61)).setCell ⟨hb, k, none⟩ (.pointer (some ⟨w.heap.size, 0, none⟩))).cell? ⟨P t, o, none⟩ = (w.alloc (.cells (hold k x) 61)).cell? ⟨P t, o, none⟩ := by
    intro t o ht
    have := h.lo t ht
    rw [co (.inl (by omega))]
  refine ⟨?_, ?_, ?_, ?_, ?_, ?_, ?_, ?_, ?_, ?_⟩
  · refine Row.set ?_ hlt (by simp)
    refine ⟨fun i hi => ?_, h1.row.2.1, h1.row.2.2⟩
    have e : ¬ i = k := by omega
    simp only [if_neg e]; exact h1.row.1 i hi
  · intro t ht
    by_cases e : t = k
    · subst e; rw [if_pos rfl]; exact new _ _ rfl
    · rw [if_neg e, old t _ (by omega)]; exact h1.tag t (by omega)
  · intro t ht
    by_cases e : t = k
    · subst e; rw [if_pos rfl, hx]; exact new _ _ rfl
    · rw [if_neg e, old t _ (by omega)]; exact h1.t7 t (by omega)
  · intro t ht
    by_cases e : t = k
    · subst e; rw [if_pos rfl, hx]; exact new _ _ rfl
    · rw [if_neg e, old t _ (by omega)]; exact h1.t8 t (by omega)
  · intro t ht
    by_cases e : t = k
    · subst e; rw [if_pos rfl]; exact new _ _ rfl
    · rw [if_neg e, old t _ (by omega)]; exact h1.t9 t (by omega)
  · intro t ht
    by_cases e : t = k
    · subst e; rw [if_pos rfl]; exact new _ _ rfl
    · rw [if_neg e, old t _ (by omega)]; exact h1.idx t (by omega)
  · intro t ht
    rw [World.frozen?_setCell]
    by_cases e : t = k
    · subst e; rw [if_pos rfl, World.frozen?_alloc_new]
    · rw [if_neg e]; exact h1.ifz t (by omega)
  · intro t ht
    by_cases e : t = k
    · subst e; rw [if_pos rfl]; omega
    · rw [if_neg e]; exact h.lo t (by omega)
  · refine ⟨by simp; omega, fun t ht => ?_⟩
    by_cases e : t = k
    · subst e; rw [if_pos rfl]; simp
    · rw [if_neg e]; have := h.hi.2 t (by omega); simp; omega
  · intro s t hs ht e
    have b1 := h.hi.2 s
    have b2 := h.hi.2 t
    have b3 := h.inj s t
    by_cases e1 : s = k <;> by_cases e2 : t = k
    · omega
    · simp only [if_pos e1, if_neg e2] at e; omega
    · simp only [if_neg e1, if_pos e2] at e; omega
    · simp only [if_neg e1, if_neg e2] at e; exact b3 (by omega) (by omega) e

theorem Mk.done {w : World} {B n : Nat} {P : Nat → Nat} {K : Nat → Int} (h : Mk w B n n P K) (cs : Array Value) (hcs : cs[0]? = some (.slice (some ⟨B, 0, none⟩) n n)) :
    Ex (w.alloc (.cells cs 66)) B w.heap.size B n P id K := by
  have h1 := h.below ((Below.refl _ _).alloc (Nat.le_refl _) (.cells cs 66))
  have hlt1 := h.hi.1
  refine ⟨?_, ?_, ?_, ?_, ?_, ?_, ?_, ?_, ?_, ?_, ?_, ?_, ?_, ?_, ?_⟩
  · rw [World.cell?_alloc_new]; exact hcs
  · exact h1.row.1
  · exact h1.row.2.2
  · exact h1.tag
  · exact h1.t7
  · exact h1.t8
  · exact h1.t9
  · exact h1.idx
  · exact h1.ifz
  · exact ⟨by omega, Nat.le_refl _, fun t ht => Nat.le_of_lt (h.lo t ht)⟩
  · exact ⟨by simp, h1.hi.1, h1.hi.2⟩
  · refine ⟨by omega, fun t ht => ?_⟩
    have a := h.lo t ht
    have b := h.hi.2 t ht
    exact ⟨by omega, by omega⟩
  · exact h.inj
  · intro i hi; exact hi
  · intro i j _ _ e; exact e

set_option maxHeartbeats 400000 in
theorem new_any (w : World) (ao : Option Addr) (kb n c : Nat) (K : Nat → Int) (ha : 0 < n → ao = some ⟨kb, 0, none⟩) (hk : ∀ i, i < n → w.cell? ⟨kb, i, none⟩ = some (.int .i64 (K i))) (hkb : 0 < n → kb < w.heap.size)
    (hK : ∀ i, i < n → -9223372036854775808 ≤ K i ∧ K i ≤ 9223372036854775807) (hn : n ≤ 65536) :
    Calls Try.prog 10 #[.slice ao n c] w fun e w' => ∃ eb hb P, e = .returned (.pointer (some ⟨eb, 0, none⟩)) ∧ Ex w' w.heap.size eb hb n P id K ∧ Below w.heap.size w w' := by
  have hmk := run_make_row' (P := Try.prog) 49 50 (.pointer none) 8 Try.underlying49 Try.info50 rfl .i64 .i64 n (by omega) (by omega)
  have HA : Hid (0 < n → ao = some ⟨kb, 0, none⟩) := ha
  have HKB : Hid (0 < n → kb < w.heap.size) := hkb
  have HK : Hid (∀ i, i < n → -9223372036854775808 ≤ K i ∧ K i ≤ 9223372036854775807) := hK
  have HC : Hid (∀ i, i < n → w.cell? ⟨kb, i, none⟩ = some (.int .i64 (K i))) := hk
  clear ha hk hkb hK
  go_enter Try.func10, Try.ntmps10
  go_wp2
  go_loopw [4] (fun iv wr => ∃ k : Nat, iv = .int .i64 k ∧ k ≤ n ∧ Below w.heap.size w wr ∧ ∃ P, Mk wr w.heap.size n k P K) (fun iv _ => n - (intOf iv).toNat)
  case atStart =>
    refine ⟨0, rfl, Nat.zero_le _, (Below.refl _ _).alloc (Nat.le_refl _) _, id, ⟨Row.made _ _ _ _ _, ?_, ?_, ?_, ?_, ?_, ?_, ?_, ⟨by simp, ?_⟩, ?_⟩⟩ <;> intros <;> omega
  case round =>
    obtain ⟨k, rfl, hk, hB, P, hM⟩ := hrel
    clear hmk
    by_cases hlt : k < n
    · have c1 : wr.cell? ⟨kb, k, none⟩ = some (.int .i64 (K k)) := by rw [hB.cell (HKB.out (by omega))]; exact HC.out k hlt
      have hKk := HK.out k hlt
      obtain rfl := HA.out (by omega)
      obtain ⟨x, hx⟩ : ∃ x, K k = x := ⟨_, rfl⟩
      rw [hx] at c1 hKk
      have HX : Hid (K k = x) := hx
      clear hx
      have C := add_any x wr hKk.1 hKk.2
      go_wp2_with fail
      refine C.mono ?_
      rintro e w1 ⟨rfl, hb1⟩
      clear C
      have hM1 := hM.below hb1
      have hB1 : Below w.heap.size w w1 := hB.trans (hb1.mono hB.size)
      obtain ⟨u, c2⟩ := hM1.row.2.1 k hlt
      have c3 := hM1.row.2.2 k hlt
      have c4 := hM1.hi.1
      go_wp2
      go_roundw
      case rel => exact ⟨k + 1, by go_num, by omega, (hB1.setCell (Nat.le_refl _) _).alloc (by simp; omega) _, fun t => if t = k then w1.heap.size else P t, (by rw [← World.setCell_alloc_past _ _ _ _ c4]; exact hM1.next hlt HX.out)⟩
      case measure => simp [intOf]; omega
    · go_wp2
      go_ret
      obtain rfl : k = n := by omega
      exact ⟨_, _, _, rfl, hM.done _ rfl, hB.alloc (Nat.le_of_lt hM.hi.1) _⟩
end Go.Proofs.Qxb6612581a
