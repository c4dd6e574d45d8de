import Derived.Test.Qxb6612581aNew
import Derived.Test.Qxb6612581aLaw
import Derived.WalkKit
import Derived.WalkSpells
import Derived.WalkLawsBesides
import Derived.BigRegion
import Derived.BigQuiet
import Derived.Deep.QuietTactic
import Derived.WalkSmall
import Derived.Deep.Cut
set_option linter.unusedVariables false
namespace Go.Proofs.Qxb6612581a
open Go.RowKit

theorem Try.info4 : (Try.prog.info? 4).map (fun i => (i.zero, i.size, i.bytes)) = some (some (.bool false), 1, 1) := by kernel_rfl

/-- the marks of the tags that were met among the first m -/
def Seen (w : World) (g n : Nat) (T : Nat → Nat) (m : Nat) : Prop :=
  (∀ t, t < n → w.cell? ⟨g, t, none⟩ = some (.bool (sn T m t))) ∧ ∀ t, t < n → w.frozen? ⟨g, t, none⟩ = false
theorem Seen.made (w : World) (n : Nat) (e : TypeId) (T : Nat → Nat) : Seen (w.alloc (.cells (madeCells #[.bool false] n) e)) w.heap.size n T 0 := by
  refine ⟨fun t ht => ?_, fun t ht => by simp⟩
  rw [World.cell?_alloc_new, sn_zero]
  have e := toList_madeCells_one (.bool false) n
  rw [← Array.getElem?_toList, e]; simp [ht]
theorem Seen.next {w : World} {g n : Nat} {T : Nat → Nat} {m t : Nat} (h : Seen w g n T m) (ht : T m = t) (hlt : t < n) : Seen (w.setCell ⟨g, t, none⟩ (.bool true)) g n T (m + 1) := by
  refine ⟨fun s hs => ?_, fun s hs => by rw [World.frozen?_setCell]; exact h.2 s hs⟩
  by_cases e : s = t
  · subst e
    rw [cs (h.1 s hs)]
    have := sn_hit T m
    rw [ht] at this; rw [this]
  · rw [co (.inr (by omega)), sn_miss T m s (by rw [ht]; exact e)]; exact h.1 s hs

set_option maxHeartbeats 400000 in
theorem bytes15 (a : Option Addr) (n c : Nat) (j : Int) (w : World) (hn : n ≤ 1048576) :
    Calls Try.prog 15 #[.slice a n c, .int .i64 j] w fun e w' => e = .returned (.bool true) ∧ w' = w := by
  go_enter Try.func15, Try.ntmps15
  go_wp2
  go_ret
  exact ⟨rfl, rfl⟩
set_option maxHeartbeats 400000 in
theorem bytes15_no (a : Option Addr) (n c : Nat) (j : Int) (w : World) (hn : 1048576 < n) :
    Calls Try.prog 15 #[.slice a n c, .int .i64 j] w fun e w' => e = .returned (.bool false) ∧ w' = w := by
  go_enter Try.func15, Try.ntmps15
  go_wp2
  go_ret
  exact ⟨rfl, rfl⟩
set_option maxHeartbeats 400000 in
theorem bytes8 (a : Option Addr) (n c : Nat) (j : Int) (w : World) (hn : n ≤ 1048576) :
    Calls Try.prog 8 #[.slice a n c, .int .i64 j] w fun e w' => e = .returned (.bool true) ∧ w' = w := by
  go_enter Try.func8, Try.ntmps8
  go_wp2
  go_ret
  exact ⟨rfl, rfl⟩
set_option maxHeartbeats 400000 in
theorem bytes8_no (a : Option Addr) (n c : Nat) (j : Int) (w : World) (hn : 1048576 < n) :
    Calls Try.prog 8 #[.slice a n c, .int .i64 j] w fun e w' => e = .returned (.bool false) ∧ w' = w := by
  go_enter Try.func8, Try.ntmps8
  go_wp2
  go_ret
  exact ⟨rfl, rfl⟩

set_option maxHeartbeats 400000 in
set_option maxRecDepth 100000 in
theorem rest_big (a : Option Addr) (n c : Nat) (j : Int) (w : World) (hn : 65536 < n ∨ j < 0 ∨ (n : Int) ≤ j) :
    Calls Try.prog 4 #[.slice a n c, .int .i64 j] w fun e w' => e = .returned (.bool true) ∧ w' = w := by
  by_cases h1 : 1048576 < n
  · go_enter Try.func4, Try.ntmps4
    go_wp2_with (go_at_call 15; refine (bytes15_no _ _ _ _ _ h1).mono ?_; rintro e w' ⟨rfl, rfl⟩)
    go_ret
    exact ⟨rfl, rfl⟩
  · have C := bytes15 a n c j w (by omega)
    by_cases h2 : 65536 < n
    · go_enter Try.func4, Try.ntmps4
      go_wp2_with (go_at_call 15; refine C.mono ?_; rintro e w' ⟨rfl, rfl⟩)
      go_ret
      exact ⟨rfl, rfl⟩
    · by_cases h3 : j < 0
      · go_enter Try.func4, Try.ntmps4
        go_wp2_with (go_at_call 15; refine C.mono ?_; rintro e w' ⟨rfl, rfl⟩)
        go_ret
        exact ⟨rfl, rfl⟩
      · have h4 : (n : Int) ≤ j := by omega
        have h5 : (0 : Int) ≤ j := by omega
        go_enter Try.func4, Try.ntmps4
        go_wp2_with (go_at_call 15; refine C.mono ?_; rintro e w' ⟨rfl, rfl⟩)
        go_ret
        exact ⟨rfl, rfl⟩

set_option maxHeartbeats 400000 in
set_option maxRecDepth 100000 in
theorem rest_first (b off n c j : Nat) (K : Nat → Int) (w : World) (hj : j < n) (hn : n ≤ 65536) (hc : ∀ i, i < n → w.cell? ⟨b, off + i, none⟩ = some (.int .i64 (K i)))
    (zs : List Int) (HZ : Hid (n ≤ zs.length ∧ (∀ i, K i = zs.getD i 0) ∧ (∀ i, i < n → -9223372036854775808 ≤ K i ∧ K i ≤ 9223372036854775807) ∧ ∀ i, i < zs.length → w.cell? ((⟨b, off, none⟩ : Addr).add i) = some (.int .i64 (zs.getD i 0)))) :
    Calls Try.prog 4 #[.slice (some ⟨b, off, none⟩) n c, .int .i64 j] w fun e w' => e = .returned (.bool true) ∧ Below w.heap.size w w' := by
  have C := bytes15 (some ⟨b, off, none⟩) n c j w (by omega)
  have HC : Hid (∀ i, i < n → w.cell? ⟨b, off + i, none⟩ = some (.int .i64 (K i))) := hc
  clear hc
  have hj1 : (j : Int) < n := by omega
  have d0 : decide ((j : Int) < 0) = false := decide_eq_false (by omega)
  have d1 : decide (n ≤ j) = false := decide_eq_false (by omega)
  have d2 : decide ((65536 : Int) < (n : Int)) = false := decide_eq_false (by omega)
  go_enter Try.func4, Try.ntmps4
  go_wp2_with (go_at_call 15; refine C.mono ?_; rintro e w' ⟨rfl, hw'⟩; replace hw' := hw'.symm; subst hw')
  clear C d0 d1 d2
  go_loopw [6] (fun cv wr => ∃ (k q : Nat), cv = .int .i64 k ∧ 1 ≤ k ∧ k ≤ n ∧ wr = w.drewN q ∧ Hid (∀ c, 1 ≤ c → c < k → c ≠ j → K ((c - 1) / 2) ≤ K c)) (fun cv _ => n - (intOf cv).toNat)
  case atStart => exact ⟨1, 0, rfl, Nat.le_refl _, by omega, rfl, fun c c1 c2 => by omega⟩
  case round =>
    obtain ⟨k, q, rfl, hk1, hk2, rfl, HP⟩ := hrel
    by_cases hlt : k < n
    · obtain ⟨i, hi, hI⟩ : ∃ i : Nat, ((k : Int) - 1) / 2 = (i : Int) ∧ Hid (i = (k - 1) / 2) := ⟨(k - 1) / 2, by omega, rfl⟩
      have hin : i < k := by have := hI.out; omega
      have b1 : (k : Int) < n := by omega
      have b2 : (i : Int) < n := by omega
      have b3 : (0 : Int) ≤ i := by omega
      have b4 : (0 : Int) ≤ k := by omega
      have c1 := HC.out k hlt
      have c2 := HC.out i (by omega)
      obtain ⟨xk, hxk⟩ : ∃ x, K k = x := ⟨_, rfl⟩
      obtain ⟨xi, hxi⟩ : ∃ x, K i = x := ⟨_, rfl⟩
      rw [hxk] at c1
      rw [hxi] at c2
      have HK : Hid (K k = xk) := hxk
      have HI : Hid (K i = xi) := hxi
      clear hxk hxi
      by_cases e : k = j
      · have e1 : ((k : Int) != (j : Int)) = false := by simp [e]
        have E : Hid (k = j) := e
        clear e
        go_wp2_with fail
        go_quiet (fail)
        go_wp2_with fail
        go_roundw
        case rel =>
          refine ⟨k + 1, _, by go_num, by omega, by omega, rfl, fun c c1 c2 c3 => HP.out c c1 ?_ c3⟩
          have := E.out; omega
        case measure => simp [intOf]; omega
      · have e1 : ((k : Int) != (j : Int)) = true := by simp; omega
        by_cases hlt2 : xk < xi
        · go_wp2_with fail
          go_quiet (fail)
          go_wp2_with fail
          go_ret
          exact ⟨rfl, below_drewN (below_drewN (Below.refl _ _) _) _⟩
        · go_wp2_with fail
          go_quiet (fail)
          go_wp2_with fail
          go_roundw
          case rel =>
            refine ⟨k + 1, _, by go_num, by omega, by omega, rfl, fun c c1 c2 c3 => ?_⟩
            by_cases ck : c = k
            · subst ck; rw [← hI.out, HK.out, HI.out]; omega
            · exact HP.out c c1 (by omega) c3
          case measure => simp [intOf]; omega
    · have hkn : k = n := by omega
      subst hkn
      clear hlt
      go_upto_if 54 with fail
      go_cut [] from 15 (fun wc => ∃ q, wc = w.drewN q ∧ Hid (Near K k j id))
      case first =>
        by_cases hj0 : 0 < j
        · obtain ⟨i, hi, hI⟩ : ∃ i : Nat, ((j : Int) - 1) / 2 = (i : Int) ∧ Hid (i = (j - 1) / 2) := ⟨(j - 1) / 2, by omega, rfl⟩
          have hin : i < j := by have := hI.out; omega
          have b2 : (i : Int) < k := by omega
          have b3 : (0 : Int) ≤ i := by omega
          have c2 := HC.out i (by omega)
          obtain ⟨xi, hxi⟩ : ∃ x, K i = x := ⟨_, rfl⟩
          rw [hxi] at c2
          have HI : Hid (K i = xi) := hxi
          clear hxi
          by_cases h1 : 2 * j + 1 < k
          · have c3 := HC.out (2 * j + 1) (by omega)
            have b4 : 2 * (j : Int) + 1 < k := by omega
            obtain ⟨x1, hx1⟩ : ∃ x, K (2 * j + 1) = x := ⟨_, rfl⟩
            rw [hx1] at c3
            have H1 : Hid (K (2 * j + 1) = x1) := hx1
            clear hx1
            by_cases l1 : x1 < xi
            · go_wp2_with fail
              go_ret
              exact ⟨rfl, below_drewN (Below.refl _ _) _⟩
            · by_cases h2 : 2 * j + 2 < k
              · have c4 := HC.out (2 * j + 2) (by omega)
                have b5 : 2 * (j : Int) + 2 < k := by omega
                obtain ⟨x2, hx2⟩ : ∃ x, K (2 * j + 2) = x := ⟨_, rfl⟩
                rw [hx2] at c4
                have H2 : Hid (K (2 * j + 2) = x2) := hx2
                clear hx2
                by_cases l2 : x2 < xi
                · go_wp2_with fail
                  go_ret
                  exact ⟨rfl, below_drewN (Below.refl _ _) _⟩
                · go_wp2_with fail
                  go_meet
                  case rel =>
                    refine ⟨q, rfl, fun c c1 c2 c3 => HP.out c c1 c2 c3, fun _ c c1 c2 c3 => ?_⟩
                    show K ((j - 1) / 2) ≤ K c
                    rw [← hI.out, HI.out]
                    have : c = 2 * j + 1 ∨ c = 2 * j + 2 := by omega
                    rcases this with rfl | rfl
                    · rw [H1.out]; omega
                    · rw [H2.out]; omega
              · have b5 : ¬ 2 * (j : Int) + 2 < k := by omega
                go_wp2_with fail
                go_meet
                case rel =>
                  refine ⟨q, rfl, fun c c1 c2 c3 => HP.out c c1 c2 c3, fun _ c c1 c2 c3 => ?_⟩
                  show K ((j - 1) / 2) ≤ K c
                  rw [← hI.out, HI.out]
                  have : c = 2 * j + 1 := by omega
                  rw [this, H1.out]; omega
          · have b4 : ¬ 2 * (j : Int) + 1 < k := by omega
            have b5 : ¬ 2 * (j : Int) + 2 < k := by omega
            go_wp2_with fail
            go_meet
            case rel =>
              refine ⟨q, rfl, fun c c1 c2 c3 => HP.out c c1 c2 c3, fun _ c c1 c2 c3 => ?_⟩
              omega
        · go_wp2_with fail
          go_meet
          case rel =>
            refine ⟨q, rfl, fun c c1 c2 c3 => HP.out c c1 c2 c3, fun h => ?_⟩
            omega
      case rest =>
        obtain ⟨q', rfl, HN⟩ := hcut
        obtain ⟨hz, hKz, hKb, hcz⟩ := HZ.out
        have C9 := clone_some (w.drewN q') ⟨b, off, none⟩ k c zs hn hz hcz
        clear hz hcz HC HP HZ
        go_wp2_with fail
        refine C9.mono ?_
        rintro e w1 ⟨g, rfl, hg1, hg2, hR, hB1⟩
        have hR' : Row w1 g k (fun i => .int .i64 (K i)) k := by
          have e : (fun i => Value.int .i64 (K i)) = fun i => .int .i64 (zs.getD i 0) := funext fun i => by rw [hKz i]
          rw [e]; exact hR
        have HB1 : Below w.heap.size w w1 := (below_drewN (Below.refl _ w) q').trans hB1
        have C10 := new_any w1 (some ⟨g, 0, none⟩) g k k K (fun _ => rfl) hR'.1 (fun _ => hg2) hKb hn
        clear C9 hR hB1 hKz hKb
        go_wp2_with fail
        refine C10.mono ?_
        rintro e w2 ⟨eb, hb, P, rfl, hE2, hB2⟩
        have C11 := ZZup_any w2 w1.heap.size eb hb k P id K j hE2 hj hn
        clear C10 hE2
        go_wp2_with fail
        refine C11.mono ?_
        rintro e w3 ⟨rfl, hE3, hB3⟩
        obtain ⟨T, hT⟩ : ∃ T, upF K j j id = T := ⟨_, rfl⟩
        rw [hT] at hE3
        have HT : Hid (∀ c, 1 ≤ c → c < k → K (T ((c - 1) / 2)) ≤ K (T c)) := by rw [← hT]; exact heap_up K k j j id (Nat.le_refl _) hj HN.out
        have C12 := tags_any w3 w1.heap.size eb hb k P T K hE3 hn
        clear C11 hT HN
        go_wp2_with fail
        refine C12.mono ?_
        rintro e w4 ⟨g1, rfl, hg3, hg4, hR4, hB4⟩
        have hE4 := hE3.below hB4
        have C13 := indexes_any w4 w1.heap.size eb hb k P T K hE4 hn
        clear C12 hE3
        go_wp2_with fail
        refine C13.mono ?_
        rintro e w5 ⟨g2, rfl, hg5, hg6, hR5, hB5⟩
        have hB15 : Below w1.heap.size w1 w5 := hB2.trans (hB3.trans ((hB4.mono (by have := hB2.size; have := hB3.size; omega)).trans (hB5.mono (by have := hB2.size; have := hB3.size; have := hB4.size; omega))))
        have hB05 : Below w.heap.size w w5 := HB1.trans (hB15.mono HB1.size)
        have RK := hR'.below hB15 hg2
        have RT := hR4.below hB5 hg4
        have hgk : g < w5.heap.size := by have := hB15.size; omega
        have hgt : g1 < w5.heap.size := by have := hB5.size; omega
        have HTR : Hid (∀ i, i < k → T i < k) := hE4.rng
        have HTI : Hid (∀ i j, i < k → j < k → T i = T j → i = j) := hE4.tinj
        have hmk := run_make_row' (P := Try.prog) 32 4 (.bool false) 1 Try.underlying32 Try.info4 rfl .i64 .i64 k (by omega) (by omega)
        clear C13 hE4 hB2 hB3 hB4 hB5 hR4 hR' hg2 hg3 hg4 hg5 hB15 HB1 hg1 hj1
        go_wp2_with fail
        clear hmk
        go_loopw [12] (fun iv wr => ∃ m : Nat, iv = .int .i64 m ∧ m ≤ k ∧ Below w5.heap.size w5 wr ∧ w5.heap.size < wr.heap.size ∧ Seen wr w5.heap.size k T m) (fun iv _ => k - (intOf iv).toNat)
        case atStart => exact ⟨0, rfl, Nat.zero_le _, (Below.refl _ _).alloc (Nat.le_refl _) _, by simp, Seen.made _ _ _ _⟩
        case round =>
          obtain ⟨m, rfl, hm, hBr, hzr, hS⟩ := hrel
          by_cases hlt : m < k
          · obtain ⟨t, ht⟩ : ∃ t, T m = t := ⟨_, rfl⟩
            have htk : t < k := by rw [← ht]; exact HTR.out m hlt
            have c1 : wr.cell? ⟨g1, m, none⟩ = some (.int .i64 t) := by rw [hBr.cell hgt, ← ht]; exact RT.1 m hlt
            have c2 : wr.cell? ⟨w5.heap.size, t, none⟩ = some (.bool false) := by
              have := hS.1 t htk
              rw [← ht, sn_fresh T k m HTI.out hlt, ht] at this; exact this
            have c3 := hS.2 t htk
            have c4 : wr.cell? ⟨g2, m, none⟩ = some (.int .i64 m) := by rw [hBr.cell hg6]; exact hR5.1 m hlt
            have c5 : ¬ w5.heap.size = g2 := by omega
            have c6 : (t : Int) < k := by omega
            have c7 : (m : Int) < k := by omega
            have HTm : Hid (T m = t) := ht
            clear ht
            go_wp2_with fail
            go_roundw
            case rel => exact ⟨m + 1, by go_num, by omega, hBr.setCell (Nat.le_refl _) _, by simpa using hzr, hS.next HTm.out htk⟩
            case measure => simp [intOf]; omega
          · go_wp2_with fail
            have hB06 : Below w.heap.size w wr := hB05.trans (hBr.mono hB05.size)
            have RK6 : Hid (∀ i, i < k → wr.cell? ⟨g, i, none⟩ = some (.int .i64 (K i))) := fun i hi => by rw [hBr.cell hgk]; exact RK.1 i hi
            have RT6 : Hid (∀ i, i < k → wr.cell? ⟨g1, i, none⟩ = some (.int .i64 (T i))) := fun i hi => by rw [hBr.cell hgt]; exact RT.1 i hi
            clear hlt hS hBr RK RT hR5 hB05 HTI hzr hgk hgt hg6
            go_loopw [14] (fun cv ww => ∃ (c q : Nat), cv = .int .i64 c ∧ 1 ≤ c ∧ c ≤ k ∧ ww = wr.drewN q) (fun cv _ => k - (intOf cv).toNat)
            case atStart => exact ⟨1, 0, rfl, Nat.le_refl _, hk1, rfl⟩
            case round =>
              obtain ⟨c', q3, rfl, hc1, hc2, rfl⟩ := hrel
              by_cases hlt : c' < k
              · obtain ⟨i, hi, hI⟩ : ∃ i : Nat, ((c' : Int) - 1) / 2 = (i : Int) ∧ Hid (i = (c' - 1) / 2) := ⟨(c' - 1) / 2, by omega, rfl⟩
                have hin : i < c' := by have := hI.out; omega
                obtain ⟨t, ht⟩ : ∃ t, T c' = t := ⟨_, rfl⟩
                obtain ⟨s, hs⟩ : ∃ s, T i = s := ⟨_, rfl⟩
                have htk : t < k := by rw [← ht]; exact HTR.out c' hlt
                have hsk : s < k := by rw [← hs]; exact HTR.out i (by omega)
                have c1 := RT6.out c' hlt
                have c2 := RT6.out i (by omega)
                rw [ht] at c1
                rw [hs] at c2
                have c3 := RK6.out t htk
                have c4 := RK6.out s hsk
                have hle := HT.out c' hc1 hlt
                rw [← hI.out, ht, hs] at hle
                obtain ⟨xt, hxt⟩ : ∃ x, K t = x := ⟨_, rfl⟩
                obtain ⟨xs, hxs⟩ : ∃ x, K s = x := ⟨_, rfl⟩
                rw [hxt] at c3 hle
                rw [hxs] at c4 hle
                clear ht hs hxt hxs
                have b1 : (c' : Int) < k := by omega
                have b2 : (i : Int) < k := by omega
                have b3 : (t : Int) < k := by omega
                have b4 : (s : Int) < k := by omega
                have p1 : (0 : Int) ≤ c' := by omega
                have p2 : (0 : Int) ≤ i := by omega
                have p3 : (0 : Int) ≤ t := by omega
                have p4 : (0 : Int) ≤ s := by omega
                have hd : ¬ xt < xs := by omega
                go_wp2_with fail
                go_quiet (fail)
                go_wp2_with fail
                go_roundw
                case rel => exact ⟨c' + 1, _, by go_num, by omega, by omega, rfl⟩
                case measure => simp [intOf]; omega
              · go_wp2_with fail
                go_ret
                exact ⟨rfl, below_drewN hB06 _⟩
end Go.Proofs.Qxb6612581a
