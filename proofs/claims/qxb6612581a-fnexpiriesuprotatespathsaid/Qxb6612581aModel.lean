import Derived.Test.Qxb6612581aNew
import Derived.Test.Qxb6612581aLaw
import Derived.WalkKit
import Derived.WalkSpells
import Derived.WalkLawsBesides
import Derived.BigRegion
import Derived.BigQuiet
import Derived.Deep.QuietTactic
import Derived.WalkSmall
set_option linter.unusedVariables false
namespace Go.Proofs.Qxb6612581a
open Go.RowKit

/-- the t-th ancestor of j -/
def anc (j : Nat) : Nat → Nat
  | 0 => j
  | t + 1 => (anc j t - 1) / 2
def upd (f : Nat → Nat) (p v : Nat) : Nat → Nat := fun i => if i = p then v else f i
/-- the tags behind t rounds of the last loop -/
def wf (j : Nat) : Nat → Nat → Nat
  | 0 => id
  | t + 1 => upd (wf j t) (anc j t) (anc j (t + 1))
/-- the order behind t rounds of 'up' -/
def TT (j t : Nat) : Nat → Nat := upd (wf j t) (anc j t) j

theorem upd_same (f : Nat → Nat) (p v : Nat) : upd f p v p = v := by simp [upd]
theorem upd_other (f : Nat → Nat) (p v i : Nat) (h : i ≠ p) : upd f p v i = f i := by simp [upd, h]

theorem anc_pow (j : Nat) : ∀ t, anc j t * 2 ^ t ≤ j
  | 0 => by simp [anc]
  | t + 1 => by
    have := anc_pow j t
    have h : (anc j t - 1) / 2 * 2 ≤ anc j t := by omega
    calc anc j (t + 1) * 2 ^ (t + 1) = (anc j t - 1) / 2 * 2 * 2 ^ t := by show (anc j t - 1) / 2 * 2 ^ (t + 1) = _; rw [Nat.pow_succ, Nat.mul_comm (2 ^ t) 2, ← Nat.mul_assoc]
      _ ≤ anc j t * 2 ^ t := Nat.mul_le_mul_right _ h
      _ ≤ j := this

theorem anc_depth (j t : Nat) (hj : j < 65536) (h : 0 < anc j t) : t < 16 := by
  have h1 := anc_pow j t
  rcases Nat.lt_or_ge t 16 with h2 | h2
  · exact h2
  · have : 2 ^ 16 ≤ 2 ^ t := Nat.pow_le_pow_right (by omega) h2
    have : 1 * 2 ^ t ≤ anc j t * 2 ^ t := Nat.mul_le_mul_right _ h
    omega

theorem anc_le (j : Nat) : ∀ t, anc j t ≤ j
  | 0 => Nat.le_refl _
  | t + 1 => by have := anc_le j t; simp only [anc]; omega

theorem anc_lt (j : Nat) (m : Nat) (h : ∀ t, t < m → 0 < anc j t) : ∀ t, t < m → anc j (t + 1) < anc j t := by
  intro t ht; have := h t ht; simp only [anc]; omega
theorem anc_anti (j : Nat) (m : Nat) (h : ∀ t, t < m → 0 < anc j t) : ∀ t, t ≤ m → anc j t + t ≤ j
  | 0, _ => by simp [anc]
  | t + 1, ht => by have := anc_anti j m h t (by omega); have := h t (by omega); simp only [anc]; omega
theorem anc_mono (j : Nat) (m : Nat) (h : ∀ t, t < m → 0 < anc j t) (s : Nat) : ∀ t, s < t → t ≤ m → anc j t < anc j s
  | 0, hs, _ => by omega
  | t + 1, hs, ht => by
    have h1 := anc_lt j m h t (by omega)
    rcases Nat.lt_or_ge s t with h2 | h2
    · have := anc_mono j m h s t h2 (by omega); omega
    · have : s = t := by omega
      subst this; exact h1

theorem wf_far (j m : Nat) (h : ∀ t, t < m → 0 < anc j t) (p : Nat) : ∀ t, t ≤ m → (∀ s, s < t → p ≠ anc j s) → wf j t p = p
  | 0, _, _ => rfl
  | t + 1, ht, hp => by
    show upd (wf j t) (anc j t) (anc j (t + 1)) p = p
    rw [upd_other _ _ _ _ (hp t (by omega))]
    exact wf_far j m h p t (by omega) (fun s hs => hp s (by omega))

/-- one round of 'up' -/
theorem TT_next (j m : Nat) (h : ∀ t, t < m → 0 < anc j t) (t : Nat) (ht : t < m) : swp (TT j t) (anc j (t + 1)) (anc j t) = TT j (t + 1) := by
  funext i
  have hlt := anc_lt j m h t ht
  have hfar : TT j t (anc j (t + 1)) = anc j (t + 1) := by
    unfold TT
    rw [upd_other _ _ _ _ (by omega)]
    refine wf_far j m h _ t (by omega) (fun s hs => ?_)
    have := anc_mono j m h s (t + 1) (by omega) (by omega); omega
  by_cases e1 : i = anc j (t + 1)
  · subst e1
    rw [swp_i]; unfold TT; rw [upd_same, upd_same]
  · by_cases e2 : i = anc j t
    · subst e2
      rw [swp_j, hfar]; unfold TT
      rw [upd_other _ _ _ _ e1]
      show _ = upd (wf j t) (anc j t) (anc j (t + 1)) (anc j t)
      rw [upd_same]
    · rw [swp_o _ _ _ _ e1 e2]
      unfold TT
      rw [upd_other _ _ _ _ e2, upd_other _ _ _ _ e1]
      show _ = upd (wf j t) (anc j t) (anc j (t + 1)) i
      rw [upd_other _ _ _ _ e2]

theorem TT_here (j t : Nat) : TT j t (anc j t) = j := upd_same _ _ _
theorem TT_up (j m : Nat) (h : ∀ t, t < m → 0 < anc j t) (t : Nat) (ht : t < m) : TT j t (anc j (t + 1)) = anc j (t + 1) := by
  have hlt := anc_lt j m h t ht
  unfold TT
  rw [upd_other _ _ _ _ (by omega)]
  refine wf_far j m h _ t (by omega) (fun s hs => ?_)
  have := anc_mono j m h s (t + 1) (by omega) (by omega); omega
theorem TT_zero (j : Nat) : TT j 0 = id := by
  funext i; unfold TT upd; by_cases e : i = anc j 0
  · rw [if_pos e, e]; rfl
  · rw [if_neg e]; rfl

theorem up_is (K : Nat → Int) (j m : Nat) (h : ∀ t, t < m → 0 < anc j t) (hl : ∀ t, t < m → K j < K (anc j (t + 1))) (hend : anc j m = 0 ∨ ¬ K j < K (anc j (m + 1))) : upF K j j id = TT j m := by
  have H : ∀ t, t ≤ m → upF K j j id = upF K (j - t) (anc j t) (TT j t) := by
    intro t
    induction t with
    | zero => intro _; rw [TT_zero]; rfl
    | succ t ih =>
      intro ht
      rw [ih (by omega)]
      have a1 := h t (by omega)
      have a2 := anc_anti j m h t (by omega)
      have a3 := hl t (by omega)
      have e : (anc j t - 1) / 2 = anc j (t + 1) := rfl
      rw [upF_go K (j - t) (anc j t) (TT j t) a1 (by omega) (by rw [e, TT_here, TT_up j m h t (by omega)]; exact a3), e, TT_next j m h t (by omega)]
      rfl
  rw [H m (Nat.le_refl _)]
  by_cases h0 : anc j m = 0
  · rw [h0, upF_zero]
  · have hn : ¬ K j < K (anc j (m + 1)) := by rcases hend with e | e; exact absurd e h0; exact e
    refine upF_stop K _ _ _ ?_
    have h' : ∀ t, t < m + 1 → 0 < anc j t := fun t ht => by
      rcases Nat.lt_or_ge t m with q | q
      · exact h t q
      · have : t = m := by omega
        subst this; omega
    have e : (anc j m - 1) / 2 = anc j (m + 1) := rfl
    rw [e, TT_here, TT_up j (m + 1) h' m (by omega)]; exact hn

theorem Row.upd {w : World} {g n : Nat} {F : Nat → Nat} (h : Row w g n (fun i => .int .i64 (F i)) n) {p v : Nat} (hp : p < n) : Row (w.setCell ⟨g, p, none⟩ (.int .i64 v)) g n (fun i => .int .i64 (upd F p v i)) n := by
  obtain ⟨h1, h2, h3⟩ := h
  have hc : ∀ i, i < n → (w.setCell ⟨g, p, none⟩ (.int .i64 v)).cell? ⟨g, i, none⟩ = some (.int .i64 (Qxb6612581a.upd F p v i)) := fun i hi => by
    by_cases e : i = p
    · subst e; rw [cs (h1 i hi), upd_same]
    · rw [co (.inr (by omega)), upd_other _ _ _ _ e]; exact h1 i hi
  exact ⟨hc, fun i hi => ⟨_, hc i hi⟩, fun i hi => by rw [World.frozen?_setCell]; exact h3 i hi⟩

theorem Row.other {w : World} {g n k b o : Nat} {V : Nat → Value} (h : Row w g n V k) (hb : b ≠ g) (v : Value) : Row (w.setCell ⟨b, o, none⟩ v) g n V k := by
  refine ⟨fun i hi => ?_, fun i hi => ?_, fun i hi => ?_⟩
  · rw [co (.inl hb)]; exact h.1 i hi
  · rw [co (.inl hb)]; exact h.2.1 i hi
  · rw [World.frozen?_setCell]; exact h.2.2 i hi

theorem Row.cut {w : World} {g n k : Nat} {V : Nat → Value} (h : Row w g n V n) (hk : k ≤ n) : Row w g n V k := ⟨fun i hi => h.1 i (by omega), h.2.1, h.2.2⟩

theorem Row.lit (w : World) (cs : Array Value) (e : TypeId) (n : Nat) (hs : cs.size = n) (V : Nat → Value) (h0 : cs[0]? = some (V 0)) : Row (w.alloc (.cells cs e)) w.heap.size n V 1 := by
  refine ⟨fun i hi => ?_, fun i hi => ?_, fun i hi => by simp⟩
  · obtain rfl : i = 0 := by omega
    rw [World.cell?_alloc_new]; exact h0
  · rw [World.cell?_alloc_new]; exact ⟨_, Array.getElem?_eq_getElem (by omega)⟩

theorem Row.alloc {w : World} {g n k : Nat} {V : Nat → Value} (h : Row w g n V k) (hg : g < w.heap.size) (o : Obj) : Row (w.alloc o) g n V k := h.below ((Below.refl _ _).alloc (Nat.le_refl _) _) hg

set_option maxHeartbeats 400000 in
set_option maxRecDepth 100000 in
theorem model_none (w : World) (ao : Option Addr) (n c : Nat) (j : Int) (hj : j ≤ 0) (hn : n ≤ 65536) :
    Calls Try.prog 14 #[.slice ao n c, .int .i64 j] w fun e w' => ∃ g, e = .returned (.slice (some ⟨g, 0, none⟩) n n) ∧ w.heap.size ≤ g ∧ g < w'.heap.size ∧ Row w' g n (fun i => .int .i64 (i : Nat)) n ∧ Below w.heap.size w w' := by
  have hmk := run_make_row' (P := Try.prog) 22 2 (.int .i64 0) 8 Try.underlying22 Try.info2 rfl .i64 .i64 n (by omega) (by omega)
  go_enter Try.func14, Try.ntmps14
  go_wp2
  clear hmk
  go_loopw [7] (fun iv wr => ∃ k : Nat, iv = .int .i64 k ∧ k ≤ n ∧ Below w.heap.size w wr ∧ w.heap.size < wr.heap.size ∧ Row wr w.heap.size n (fun i => .int .i64 (i : Nat)) k) (fun iv _ => n - (intOf iv).toNat)
  case atStart => exact ⟨0, rfl, Nat.zero_le _, (Below.refl _ _).alloc (Nat.le_refl _) _, by simp, Row.made _ _ _ _ _⟩
  case round =>
    obtain ⟨k, rfl, hk, hB, hz, hR⟩ := hrel
    by_cases hlt : k < n
    · obtain ⟨u, c3⟩ := hR.2.1 k hlt
      have c4 := hR.2.2 k hlt
      go_wp2
      go_roundw
      case rel => exact ⟨k + 1, by go_num, by omega, hB.setCell (Nat.le_refl _) _, by simpa using hz, hR.set hlt rfl⟩
      case measure => simp [intOf]; omega
    · go_wp2
      go_ret
      obtain rfl : k = n := by omega
      exact ⟨_, rfl, Nat.le_refl _, hz, hR, hB⟩

set_option maxHeartbeats 400000 in
set_option maxRecDepth 100000 in
theorem model_some (w : World) (kb n c : Nat) (K : Nat → Int) (j : Nat) (hj0 : 0 < j) (hj : j < n) (hn : n ≤ 65536) (hk : ∀ i, i < n → w.cell? ⟨kb, i, none⟩ = some (.int .i64 (K i))) :
    Calls Try.prog 14 #[.slice (some ⟨kb, 0, none⟩) n c, .int .i64 j] w fun e w' => ∃ g, e = .returned (.slice (some ⟨g, 0, none⟩) n n) ∧ w.heap.size ≤ g ∧ g < w'.heap.size ∧ Row w' g n (fun i => .int .i64 (upF K j j id i : Nat)) n ∧ Below w.heap.size w w' := by
  have hmk := run_make_row' (P := Try.prog) 22 2 (.int .i64 0) 8 Try.underlying22 Try.info2 rfl .i64 .i64 n (by omega) (by omega)
  have HK : Hid (∀ i, i < n → w.cell? ⟨kb, i, none⟩ = some (.int .i64 (K i))) := hk
  have hkb : kb < w.heap.size := block_lt_of_cell (hk j hj)
  clear hk
  have hj1 : (j : Int) < n := by omega
  have hj2 : (0 : Int) < j := by omega
  have hd27 : decide ((j : Int) ≤ 0) = false := decide_eq_false (by omega)
  have hd28 : decide (j = 0) = false := decide_eq_false (by omega)
  go_enter Try.func14, Try.ntmps14
  go_wp2
  clear hmk
  go_loopw [7] (fun iv wr => ∃ k : Nat, iv = .int .i64 k ∧ k ≤ n ∧ Below w.heap.size w wr ∧ w.heap.size < wr.heap.size ∧ Row wr w.heap.size n (fun i => .int .i64 (i : Nat)) k) (fun iv _ => n - (intOf iv).toNat)
  case atStart => exact ⟨0, rfl, Nat.zero_le _, (Below.refl _ _).alloc (Nat.le_refl _) _, by simp, Row.made _ _ _ _ _⟩
  case round =>
    obtain ⟨k, rfl, hk, hB, hz, hR⟩ := hrel
    by_cases hlt : k < n
    · obtain ⟨u, c3⟩ := hR.2.1 k hlt
      have c4 := hR.2.2 k hlt
      go_wp2
      go_roundw
      case rel => exact ⟨k + 1, by go_num, by omega, hB.setCell (Nat.le_refl _) _, by simpa using hz, hR.set hlt rfl⟩
      case measure => simp [intOf]; omega
    · obtain rfl : k = n := by omega
      clear hlt
      go_wp2
      clear hd27 hd28
      rename World => w1
      go_loopw [9] (fun dv ww => ∃ d : Nat, dv = .int .i64 d ∧ d ≤ 16 ∧ Below w.heap.size w ww ∧ w1.heap.size < ww.heap.size ∧ Row ww w.heap.size k (fun i => .int .i64 (i : Nat)) k ∧ Row ww w1.heap.size 64 (fun t => .int .i64 (anc j t : Nat)) (d + 1) ∧ Hid (∀ t, t < d → 0 < anc j t)) (fun dv _ => 64 - (intOf dv).toNat)
      case atStart =>
        exact ⟨0, rfl, by omega, hB.alloc (Nat.le_of_lt hz) _, by simp, hR.alloc hz _, Row.lit _ _ _ _ rfl _ rfl, fun t ht => by omega⟩
      case round =>
        obtain ⟨d, rfl, hd, hB2, hz2, hR2, hA2, HP⟩ := hrel
        obtain ⟨y, hy⟩ : ∃ y, anc j d = y := ⟨_, rfl⟩
        have c1 : wr.cell? ⟨w1.heap.size, d, none⟩ = some (.int .i64 y) := by rw [← hy]; exact hA2.1 d (by omega)
        have HY : Hid (anc j d = y) := hy
        clear hy
        have b0 : (0 : Int) ≤ d := by omega
        have b1 : (d : Int) < 63 := by omega
        have b2 : (d : Int) < 64 := by omega
        by_cases hpos : 0 < y
        · obtain ⟨z, hzz, HZ⟩ : ∃ z : Nat, ((y : Int) - 1) / 2 = (z : Int) ∧ Hid (z = anc j (d + 1)) := ⟨(y - 1) / 2, by omega, by show _ = (anc j d - 1) / 2; rw [HY.out]⟩
          obtain ⟨u, c2⟩ := hA2.2.1 (d + 1) (by omega)
          have c3 := hA2.2.2 (d + 1) (by omega)
          have hyb : y ≤ 65536 := by rw [← HY.out]; have := anc_le j d; omega
          have hd16 : d < 16 := anc_depth j d (by omega) (by rw [HY.out]; exact hpos)
          go_wp2
          go_roundw
          case rel =>
            refine ⟨d + 1, by go_num, by omega, hB2.setCell (Nat.le_of_lt hz) _, by simpa using hz2, hR2.other (by omega) _, ?_, fun t ht => ?_⟩
            · exact hA2.set (by omega) (by rw [HZ.out])
            · rcases Nat.lt_or_ge t d with q | q
              · exact HP.out t q
              · have : t = d := by omega
                subst this; rw [HY.out]; exact hpos
          case measure => simp [intOf]; omega
        · have hy0 : anc j d = 0 := by rw [HY.out]; omega
          have HY0 : Hid (anc j d = 0) := hy0
          clear hy0
          have ck : wr.cell? ⟨kb, j, none⟩ = some (.int .i64 (K j)) := by rw [hB2.cell hkb]; exact HK.out j hj
          obtain ⟨x, hx⟩ : ∃ x, K j = x := ⟨_, rfl⟩
          rw [hx] at ck
          have HX : Hid (K j = x) := hx
          clear hx
          go_wp2
          rename World => w2
          go_loop [11] (fun mv => ∃ m : Nat, mv = .int .i64 m ∧ m ≤ d ∧ Hid (∀ t, t < m → K j < K (anc j (t + 1)))) (fun mv => d - (intOf mv).toNat)
          case atStart => exact ⟨0, rfl, by omega, fun t ht => by omega⟩
          case round =>
            obtain ⟨m, rfl, hm, HM⟩ := hrel
            by_cases hmd : m < d
            · obtain ⟨z, hzz⟩ : ∃ z, anc j (m + 1) = z := ⟨_, rfl⟩
              have hzk : z < k := by rw [← hzz]; have := anc_le j (m + 1); omega
              have c5 : w2.cell? ⟨w1.heap.size, m + 1, none⟩ = some (.int .i64 z) := by rw [← hzz]; exact hA2.1 (m + 1) (by omega)
              have c6 : w2.cell? ⟨kb, z, none⟩ = some (.int .i64 (K z)) := by rw [hB2.cell hkb]; exact HK.out z hzk
              obtain ⟨xz, hxz⟩ : ∃ x, K z = x := ⟨_, rfl⟩
              rw [hxz] at c6
              have HXZ : Hid (K (anc j (m + 1)) = xz) := by rw [hzz]; exact hxz
              clear hxz hzz
              have b3 : (m : Int) < d := by omega
              have b4 : (z : Int) < k := by omega
              by_cases hlt : x < xz
              · go_wp2
                go_round
                case rel =>
                  refine ⟨m + 1, by go_num, by omega, fun t ht => ?_⟩
                  rcases Nat.lt_or_ge t m with q | q
                  · exact HM.out t q
                  · have : t = m := by omega
                    subst this; rw [HXZ.out, HX.out]; exact hlt
                case measure => simp [intOf]; omega
              · have HEND : Hid (anc j m = 0 ∨ ¬ K j < K (anc j (m + 1))) := by
                  show _ ∨ _; right; rw [HXZ.out, HX.out]; exact hlt
                go_wp2
                go_loopw [12] (fun tv ww => ∃ t : Nat, tv = .int .i64 t ∧ t ≤ m ∧ Below w.heap.size w ww ∧ w1.heap.size < ww.heap.size ∧ Row ww w.heap.size k (fun i => .int .i64 (wf j t i : Nat)) k ∧ Row ww w1.heap.size 64 (fun t => .int .i64 (anc j t : Nat)) (d + 1)) (fun tv _ => m - (intOf tv).toNat)
                case atStart => exact ⟨0, rfl, by omega, hB2, hz2, hR2, hA2⟩
                case round =>
                  obtain ⟨t, rfl, ht, hB3, hz3, hR3, hA3⟩ := hrel
                  have hne : ¬ w.heap.size = w1.heap.size := by omega
                  have hne' : ¬ w1.heap.size = w.heap.size := by omega
                  by_cases htm : t < m
                  · obtain ⟨y1, hy1⟩ : ∃ y, anc j t = y := ⟨_, rfl⟩
                    obtain ⟨y2, hy2⟩ : ∃ y, anc j (t + 1) = y := ⟨_, rfl⟩
                    have hk1 : y1 < k := by rw [← hy1]; have := anc_le j t; omega
                    have d1 : wr.cell? ⟨w1.heap.size, t, none⟩ = some (.int .i64 y1) := by rw [← hy1]; exact hA3.1 t (by omega)
                    have d2 : wr.cell? ⟨w1.heap.size, t + 1, none⟩ = some (.int .i64 y2) := by rw [← hy2]; exact hA3.1 (t + 1) (by omega)
                    obtain ⟨u, d3⟩ := hR3.2.1 y1 hk1
                    have d4 := hR3.2.2 y1 hk1
                    have HY1 : Hid (anc j t = y1) := hy1
                    have HY2 : Hid (anc j (t + 1) = y2) := hy2
                    clear hy1 hy2 c1
                    have e1 : (0 : Int) ≤ t := by omega
                    have e2 : (t : Int) < m := by omega
                    have e3 : (t : Int) < 64 := by omega
                    have e4 : (t : Int) + 1 < 64 := by omega
                    have e5 : (0 : Int) ≤ y1 := by omega
                    have e6 : (y1 : Int) < k := by omega
                    go_wp2_with fail
                    go_region
                    go_wp2
                    go_roundw
                    case rel =>
                      refine ⟨t + 1, by go_num, by omega, (hB3.setCell (Nat.le_refl _) _).drew, by simpa using hz3, ?_, hA3.other hne _⟩
                      have := hR3.upd (p := y1) (v := y2) hk1
                      rw [← HY1.out, ← HY2.out] at this
                      rw [← HY1.out, ← HY2.out]
                      exact this
                    case measure => simp [intOf]; omega
                  · obtain rfl : t = m := by omega
                    obtain ⟨y1, hy1⟩ : ∃ y, anc j t = y := ⟨_, rfl⟩
                    have hk1 : y1 < k := by rw [← hy1]; have := anc_le j t; omega
                    have d1 : wr.cell? ⟨w1.heap.size, t, none⟩ = some (.int .i64 y1) := by rw [← hy1]; exact hA3.1 t (by omega)
                    obtain ⟨u, d3⟩ := hR3.2.1 y1 hk1
                    have d4 := hR3.2.2 y1 hk1
                    have HY1 : Hid (anc j t = y1) := hy1
                    clear hy1 c1
                    have e1 : (0 : Int) ≤ t := by omega
                    have e3 : (t : Int) < 64 := by omega
                    have e5 : (0 : Int) ≤ y1 := by omega
                    have e6 : (y1 : Int) < k := by omega
                    go_wp2
                    go_ret
                    refine ⟨_, rfl, Nat.le_refl _, by simp; omega, ?_, hB3.setCell (Nat.le_refl _) _⟩
                    have hu := up_is K j t (fun s hs => HP.out s (by omega)) HM.out (by have := HEND.out; omega)
                    rw [hu]
                    have := hR3.upd (p := y1) (v := j) hk1
                    rw [← HY1.out] at this
                    rw [← HY1.out]
                    exact this
            · have HEND : Hid (anc j m = 0 ∨ ¬ K j < K (anc j (m + 1))) := by
                show _ ∨ _; left; have : m = d := by omega
                rw [this]; exact HY0.out
              have b3 : decide ((m : Int) < (d : Int)) = false := decide_eq_false (by omega)
              have b4 : decide (m < d) = false := decide_eq_false (by omega)
              go_wp2
              clear b3 b4
              go_loopw [12] (fun tv ww => ∃ t : Nat, tv = .int .i64 t ∧ t ≤ m ∧ Below w.heap.size w ww ∧ w1.heap.size < ww.heap.size ∧ Row ww w.heap.size k (fun i => .int .i64 (wf j t i : Nat)) k ∧ Row ww w1.heap.size 64 (fun t => .int .i64 (anc j t : Nat)) (d + 1)) (fun tv _ => m - (intOf tv).toNat)
              case atStart => exact ⟨0, rfl, by omega, hB2, hz2, hR2, hA2⟩
              case round =>
                obtain ⟨t, rfl, ht, hB3, hz3, hR3, hA3⟩ := hrel
                have hne : ¬ w.heap.size = w1.heap.size := by omega
                have hne' : ¬ w1.heap.size = w.heap.size := by omega
                by_cases htm : t < m
                · obtain ⟨y1, hy1⟩ : ∃ y, anc j t = y := ⟨_, rfl⟩
                  obtain ⟨y2, hy2⟩ : ∃ y, anc j (t + 1) = y := ⟨_, rfl⟩
                  have hk1 : y1 < k := by rw [← hy1]; have := anc_le j t; omega
                  have d1 : wr.cell? ⟨w1.heap.size, t, none⟩ = some (.int .i64 y1) := by rw [← hy1]; exact hA3.1 t (by omega)
                  have d2 : wr.cell? ⟨w1.heap.size, t + 1, none⟩ = some (.int .i64 y2) := by rw [← hy2]; exact hA3.1 (t + 1) (by omega)
                  obtain ⟨u, d3⟩ := hR3.2.1 y1 hk1
                  have d4 := hR3.2.2 y1 hk1
                  have HY1 : Hid (anc j t = y1) := hy1
                  have HY2 : Hid (anc j (t + 1) = y2) := hy2
                  clear hy1 hy2 c1
                  have e1 : (0 : Int) ≤ t := by omega
                  have e2 : (t : Int) < m := by omega
                  have e3 : (t : Int) < 64 := by omega
                  have e4 : (t : Int) + 1 < 64 := by omega
                  have e5 : (0 : Int) ≤ y1 := by omega
                  have e6 : (y1 : Int) < k := by omega
                  go_wp2_with fail
                  go_region
                  go_wp2
                  go_roundw
                  case rel =>
                    refine ⟨t + 1, by go_num, by omega, (hB3.setCell (Nat.le_refl _) _).drew, by simpa using hz3, ?_, hA3.other hne _⟩
                    have := hR3.upd (p := y1) (v := y2) hk1
                    rw [← HY1.out, ← HY2.out] at this
                    rw [← HY1.out, ← HY2.out]
                    exact this
                  case measure => simp [intOf]; omega
                · obtain rfl : t = m := by omega
                  obtain ⟨y1, hy1⟩ : ∃ y, anc j t = y := ⟨_, rfl⟩
                  have hk1 : y1 < k := by rw [← hy1]; have := anc_le j t; omega
                  have d1 : wr.cell? ⟨w1.heap.size, t, none⟩ = some (.int .i64 y1) := by rw [← hy1]; exact hA3.1 t (by omega)
                  obtain ⟨u, d3⟩ := hR3.2.1 y1 hk1
                  have d4 := hR3.2.2 y1 hk1
                  have HY1 : Hid (anc j t = y1) := hy1
                  clear hy1 c1
                  have e1 : (0 : Int) ≤ t := by omega
                  have e3 : (t : Int) < 64 := by omega
                  have e5 : (0 : Int) ≤ y1 := by omega
                  have e6 : (y1 : Int) < k := by omega
                  go_wp2
                  go_ret
                  refine ⟨_, rfl, Nat.le_refl _, by simp; omega, ?_, hB3.setCell (Nat.le_refl _) _⟩
                  have hu := up_is K j t (fun s hs => HP.out s (by omega)) HM.out (by have := HEND.out; omega)
                  rw [hu]
                  have := hR3.upd (p := y1) (v := j) hk1
                  rw [← HY1.out] at this
                  rw [← HY1.out]
                  exact this
end Go.Proofs.Qxb6612581a
