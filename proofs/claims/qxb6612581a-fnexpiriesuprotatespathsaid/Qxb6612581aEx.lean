import Derived.Test.Qxb6612581aHeap
import Derived.WalkKit
import Derived.WalkSpells
import Derived.WalkLawsBesides
set_option linter.unusedVariables false
namespace Go.Proofs.Qxb6612581a
open Go.RowKit

/-- What the call has laid: an 'expiries' at block eb, its holds' array at hb, hold t at block P t; at position i lies hold T i. -/
structure Ex (w : World) (B eb hb n : Nat) (P T : Nat → Nat) (K : Nat → Int) : Prop where
  he : w.cell? ⟨eb, 0, none⟩ = some (.slice (some ⟨hb, 0, none⟩) n n)
  hold : ∀ i, i < n → w.cell? ⟨hb, i, none⟩ = some (.pointer (some ⟨P (T i), 0, none⟩))
  hfz : ∀ i, i < n → w.frozen? ⟨hb, i, none⟩ = false
  tag : ∀ t, t < n → w.cell? ⟨P t, 3, none⟩ = some (.int .i64 t)
  t7 : ∀ t, t < n → w.cell? ⟨P t, 7, none⟩ = some (.int .u64 (K t % 1000000000))
  t8 : ∀ t, t < n → w.cell? ⟨P t, 8, none⟩ = some (.int .i64 (K t / 1000000000))
  t9 : ∀ t, t < n → w.cell? ⟨P t, 9, none⟩ = some (.pointer none)
  idx : ∀ i, i < n → w.cell? ⟨P (T i), 10, none⟩ = some (.int .i64 i)
  ifz : ∀ t, t < n → w.frozen? ⟨P t, 10, none⟩ = false
  lo : B ≤ eb ∧ B ≤ hb ∧ ∀ t, t < n → B ≤ P t
  hi : eb < w.heap.size ∧ hb < w.heap.size ∧ ∀ t, t < n → P t < w.heap.size
  ne : eb ≠ hb ∧ ∀ t, t < n → hb ≠ P t ∧ eb ≠ P t
  inj : ∀ s t, s < n → t < n → P s = P t → s = t
  rng : ∀ i, i < n → T i < n
  tinj : ∀ i j, i < n → j < n → T i = T j → i = j

def swp (T : Nat → Nat) (i j : Nat) : Nat → Nat := fun k => if k = i then T j else if k = j then T i else T k

theorem Ex.below {w w' : World} {B eb hb n : Nat} {P T : Nat → Nat} {K : Nat → Int} (h : Ex w B eb hb n P T K) (hb' : Below w.heap.size w w') : Ex w' B eb hb n P T K where
  he := by rw [hb'.cell h.hi.1]; exact h.he
  hold i hi := by rw [hb'.cell h.hi.2.1]; exact h.hold i hi
  hfz i hi := by rw [hb'.frozen h.hi.2.1]; exact h.hfz i hi
  tag t ht := by rw [hb'.cell (h.hi.2.2 t ht)]; exact h.tag t ht
  t7 t ht := by rw [hb'.cell (h.hi.2.2 t ht)]; exact h.t7 t ht
  t8 t ht := by rw [hb'.cell (h.hi.2.2 t ht)]; exact h.t8 t ht
  t9 t ht := by rw [hb'.cell (h.hi.2.2 t ht)]; exact h.t9 t ht
  idx i hi := by rw [hb'.cell (h.hi.2.2 _ (h.rng i hi))]; exact h.idx i hi
  ifz t ht := by rw [hb'.frozen (h.hi.2.2 t ht)]; exact h.ifz t ht
  lo := h.lo
  hi := ⟨Nat.lt_of_lt_of_le h.hi.1 hb'.size, Nat.lt_of_lt_of_le h.hi.2.1 hb'.size, fun t ht => Nat.lt_of_lt_of_le (h.hi.2.2 t ht) hb'.size⟩
  ne := h.ne
  inj := h.inj
  rng := h.rng
  tinj := h.tinj

/-- the world behind 'swap' -/
def swapped (w : World) (hb i j bi bj : Nat) : World :=
  ((((w.setCell ⟨hb, i, none⟩ (.pointer (some ⟨bj, 0, none⟩))).setCell ⟨hb, j, none⟩ (.pointer (some ⟨bi, 0, none⟩))).setCell ⟨bj, 10, none⟩ (.int .i64 i)).setCell ⟨bi, 10, none⟩ (.int .i64 j)).drew.drew

theorem swapped_below {w : World} {B hb i j bi bj : Nat} (h1 : B ≤ hb) (h2 : B ≤ bi) (h3 : B ≤ bj) : Below B w (swapped w hb i j bi bj) :=
  (((((Below.refl B w).setCell h1 _).setCell h1 _).setCell h3 _).setCell h2 _).drew.drew

theorem swapped_frozen (w : World) (hb i j bi bj : Nat) (a : Addr) : (swapped w hb i j bi bj).frozen? a = w.frozen? a := by
  unfold swapped; simp only [World.frozen?_drew, World.frozen?_setCell]

theorem swapped_other {w : World} {hb i j bi bj b o : Nat} (h1 : b ≠ hb ∨ (o ≠ i ∧ o ≠ j)) (h2 : b ≠ bi ∨ o ≠ 10) (h3 : b ≠ bj ∨ o ≠ 10) :
    (swapped w hb i j bi bj).cell? ⟨b, o, none⟩ = w.cell? ⟨b, o, none⟩ := by
  unfold swapped
  rw [World.cell?_drew, World.cell?_drew, co (by omega), co (by omega), co (by omega), co (by omega)]

theorem swp_i (T : Nat → Nat) (i j : Nat) : swp T i j i = T j := by simp [swp]
theorem swp_j (T : Nat → Nat) (i j : Nat) : swp T i j j = T i := by
  unfold swp; by_cases h : j = i
  · rw [if_pos h, h]
  · rw [if_neg h, if_pos rfl]
theorem swp_o (T : Nat → Nat) (i j k : Nat) (h1 : k ≠ i) (h2 : k ≠ j) : swp T i j k = T k := by
  unfold swp; rw [if_neg h1, if_neg h2]

theorem Ex.swap {w : World} {B eb hb n : Nat} {P T : Nat → Nat} {K : Nat → Int} (h : Ex w B eb hb n P T K) {i j : Nat} (hi : i < n) (hj : j < n) (hij : i ≠ j) :
    Ex (swapped w hb i j (P (T i)) (P (T j))) B eb hb n P (swp T i j) K := by
  have ri := h.rng i hi
  have rj := h.rng j hj
  have di := (h.ne.2 _ ri)
  have dj := (h.ne.2 _ rj)
  have dij : P (T i) ≠ P (T j) := fun e => hij (h.tinj i j hi hj (h.inj _ _ ri rj e))
  refine ⟨?_, ?_, ?_, ?_, ?_, ?_, ?_, ?_, ?_, h.lo, ?_, h.ne, h.inj, ?_, ?_⟩
  · rw [swapped_other (.inl h.ne.1) (.inr (by omega)) (.inr (by omega))]; exact h.he
  · intro k hk
    by_cases k1 : k = i
    · subst k1
      rw [swp_i]; unfold swapped
      rw [World.cell?_drew, World.cell?_drew, co (.inl (Ne.symm di.1)), co (.inl (Ne.symm dj.1)), co (.inr (by omega)), cs (h.hold k hk)]
    · by_cases k2 : k = j
      · subst k2
        rw [swp_j]; unfold swapped
        rw [World.cell?_drew, World.cell?_drew, co (.inl (Ne.symm di.1)), co (.inl (Ne.symm dj.1)), cs (u := .pointer (some ⟨P (T k), 0, none⟩)) (by rw [co (.inr (by omega))]; exact h.hold k hk)]
      · rw [swp_o T i j k k1 k2, swapped_other (.inr ⟨k1, k2⟩) (.inl di.1) (.inl dj.1)]; exact h.hold k hk
  · intro k hk; rw [swapped_frozen]; exact h.hfz k hk
  · intro t ht; rw [swapped_other (.inl (Ne.symm (h.ne.2 t ht).1)) (.inr (by omega)) (.inr (by omega))]; exact h.tag t ht
  · intro t ht; rw [swapped_other (.inl (Ne.symm (h.ne.2 t ht).1)) (.inr (by omega)) (.inr (by omega))]; exact h.t7 t ht
  · intro t ht; rw [swapped_other (.inl (Ne.symm (h.ne.2 t ht).1)) (.inr (by omega)) (.inr (by omega))]; exact h.t8 t ht
  · intro t ht; rw [swapped_other (.inl (Ne.symm (h.ne.2 t ht).1)) (.inr (by omega)) (.inr (by omega))]; exact h.t9 t ht
  · intro k hk
    by_cases k1 : k = i
    · subst k1
      rw [swp_i]; unfold swapped
      rw [World.cell?_drew, World.cell?_drew, co (.inl dij), cs (u := .int .i64 j) (by rw [co (.inl dj.1), co (.inl dj.1)]; exact h.idx j hj)]
    · by_cases k2 : k = j
      · subst k2
        rw [swp_j]; unfold swapped
        rw [World.cell?_drew, World.cell?_drew, cs (u := .int .i64 i) (by rw [co (.inl (Ne.symm dij)), co (.inl di.1), co (.inl di.1)]; exact h.idx i hi)]
      · have rk := h.rng k hk
        rw [swp_o T i j k k1 k2, swapped_other (.inl (Ne.symm (h.ne.2 _ rk).1)) (.inl (fun e => k1 (h.tinj k i hk hi (h.inj _ _ rk ri e)))) (.inl (fun e => k2 (h.tinj k j hk hj (h.inj _ _ rk rj e))))]
        exact h.idx k hk
  · intro t ht; rw [swapped_frozen]; exact h.ifz t ht
  · have e : (swapped w hb i j (P (T i)) (P (T j))).heap.size = w.heap.size := by unfold swapped; simp
    rw [e]; exact h.hi
  · intro k hk
    by_cases k1 : k = i
    · rw [k1, swp_i]; exact rj
    · by_cases k2 : k = j
      · rw [k2, swp_j]; exact ri
      · rw [swp_o T i j k k1 k2]; exact h.rng k hk
  · intro k l hk hl e
    unfold swp at e
    have a1 := h.tinj k l hk hl
    have a2 := h.tinj j l hj hl
    have a3 := h.tinj i l hi hl
    have a4 := h.tinj k j hk hj
    have a5 := h.tinj k i hk hi
    have a6 := h.tinj i j hi hj
    have a7 := h.tinj j i hj hi
    split at e <;> split at e <;> (try split at e) <;> (try split at e) <;> omega

/-- what 'up' makes of the order: 'f' rounds at most are left -/
def upF (K : Nat → Int) : Nat → Nat → (Nat → Nat) → (Nat → Nat)
  | 0, _, T => T
  | f + 1, j, T => if j = 0 then T else if K (T j) < K (T ((j - 1) / 2)) then upF K f ((j - 1) / 2) (swp T ((j - 1) / 2) j) else T

theorem upF_zero (K : Nat → Int) (f : Nat) (T : Nat → Nat) : upF K f 0 T = T := by cases f <;> simp [upF]
theorem upF_stop (K : Nat → Int) (f j : Nat) (T : Nat → Nat) (h : ¬ K (T j) < K (T ((j - 1) / 2))) : upF K f j T = T := by
  cases f with
  | zero => rfl
  | succ f => simp only [upF]; by_cases hj : j = 0
              · rw [if_pos hj]
              · rw [if_neg hj, if_neg h]
theorem upF_go (K : Nat → Int) (f j : Nat) (T : Nat → Nat) (hj : 0 < j) (hf : j ≤ f) (h : K (T j) < K (T ((j - 1) / 2))) : upF K f j T = upF K (f - 1) ((j - 1) / 2) (swp T ((j - 1) / 2) j) := by
  obtain ⟨g, rfl⟩ : ∃ g, f = g + 1 := ⟨f - 1, by omega⟩
  simp only [upF, Nat.add_sub_cancel]; rw [if_neg (by omega), if_pos h]
end Go.Proofs.Qxb6612581a
