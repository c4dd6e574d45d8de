import Derived.Test.Qxb6612581aEx
set_option linter.unusedVariables false
namespace Go.Proofs.Qxb6612581a

/-- a heap but for the pair (parent of j, j) -/
def Near (K : Nat → Int) (n : Nat) (j : Nat) (T : Nat → Nat) : Prop :=
  (∀ c, 1 ≤ c → c < n → c ≠ j → K (T ((c - 1) / 2)) ≤ K (T c)) ∧ (0 < j → ∀ c, 1 ≤ c → c < n → (c - 1) / 2 = j → K (T ((j - 1) / 2)) ≤ K (T c))

theorem heap_up (K : Nat → Int) (n : Nat) : ∀ (f j : Nat) (T : Nat → Nat), j ≤ f → j < n → Near K n j T → ∀ c, 1 ≤ c → c < n → K (upF K f j T ((c - 1) / 2)) ≤ K (upF K f j T c)
  | 0, j, T, hf, hj, h, c, c1, c2 => by
    show K (T ((c - 1) / 2)) ≤ K (T c)
    exact h.1 c c1 c2 (by omega)
  | f + 1, j, T, hf, hj, h, c, c1, c2 => by
    simp only [upF]
    by_cases j0 : j = 0
    · rw [if_pos j0]; exact h.1 c c1 c2 (by omega)
    · rw [if_neg j0]
      by_cases hlt : K (T j) < K (T ((j - 1) / 2))
      · rw [if_pos hlt]
        refine heap_up K n f ((j - 1) / 2) (swp T ((j - 1) / 2) j) (by omega) (by omega) ⟨?_, ?_⟩ c c1 c2
        · intro c c1 c2 ci
          by_cases e : c = j
          · subst e
            rw [swp_i, swp_j]; omega
          · rw [swp_o T _ j c ci e]
            by_cases e1 : (c - 1) / 2 = (j - 1) / 2
            · rw [e1, swp_i]
              have := h.1 c c1 c2 e
              rw [e1] at this; omega
            · by_cases e2 : (c - 1) / 2 = j
              · rw [e2, swp_j]
                exact h.2 (by omega) c c1 c2 e2
              · rw [swp_o T _ j _ e1 e2]
                exact h.1 c c1 c2 e
        · intro ipos c c1 c2 e1
          have q1 := h.1 ((j - 1) / 2) (by omega) (by omega) (by omega)
          rw [swp_o T _ j _ (by omega) (by omega)]
          by_cases e : c = j
          · subst e; rw [swp_j]; exact q1
          · rw [swp_o T _ j c (by omega) e]
            have := h.1 c c1 c2 e
            rw [e1] at this; omega
      · rw [if_neg hlt]
        by_cases e : c = j
        · subst e; omega
        · exact h.1 c c1 c2 e

/-- has t been met among the first k? -/
def sn (T : Nat → Nat) (k t : Nat) : Bool := (List.range k).any fun i => T i == t

theorem sn_fresh (T : Nat → Nat) (n k : Nat) (h : ∀ i j, i < n → j < n → T i = T j → i = j) (hk : k < n) : sn T k (T k) = false := by
  unfold sn
  rw [List.any_eq_false]
  intro i hi
  have := List.mem_range.1 hi
  intro e
  have := h i k (by omega) hk (by simpa using e)
  omega
theorem sn_hit (T : Nat → Nat) (k : Nat) : sn T (k + 1) (T k) = true := by
  unfold sn; rw [List.range_succ, List.any_append]; simp
theorem sn_miss (T : Nat → Nat) (k t : Nat) (h : t ≠ T k) : sn T (k + 1) t = sn T k t := by
  unfold sn; rw [List.range_succ, List.any_append]; simp; intro e; exact absurd e.symm h
theorem sn_zero (T : Nat → Nat) (t : Nat) : sn T 0 t = false := rfl

end Go.Proofs.Qxb6612581a
