/- FnSamePremiumMatchesSpreadAndAnyCut, at this seat's dump. -/
import Derived.Test.Qxb6608960aWb
import Derived.Test.Qxb6608960aWc
namespace Go.Proofs.Qxb6608960a
open Go.RowKit
set_option linter.unusedVariables false

theorem below_chain {a b c : World} (h : Below a.heap.size a b) (k : Below b.heap.size b c) : Below a.heap.size a c := h.trans (k.mono h.size)
theorem Rd.below {w w' : World} {b o n : Nat} {Z : Nat → Nat → Int} (h : Rd w b o n Z) (hb : b < w.heap.size) (k : Below w.heap.size w w') : Rd w' b o n Z :=
  fun i hi j hj => (k.cell (p := ⟨b, o + i * 4 + j, none⟩) hb).trans (h i hi j hj)
theorem Rd.take {w : World} {b o n t : Nat} {Z : Nat → Nat → Int} (h : Rd w b o n Z) (ht : t ≤ n) : Rd w b o t Z := fun i hi j hj => h i (by omega) j hj
theorem Rd.drop {w : World} {b n t : Nat} {Z : Nat → Nat → Int} (h : Rd w b 0 n Z) (ht : t ≤ n) : Rd w b (t * 4) (n - t) (fun i => Z (t + i)) := fun i hi j hj => by
  have := h (t + i) (by omega) j hj
  rw [← this]; congr 2; omega

/-- The least and the greatest of the first k numbers of column 0. -/
def Spread (Z : Nat → Nat → Int) (k : Nat) (lo hi : Int) : Prop := (∀ j, j < k → lo ≤ Z j 0 ∧ Z j 0 ≤ hi) ∧ (∃ j, j < k ∧ lo = Z j 0) ∧ (∃ j, j < k ∧ hi = Z j 0)
theorem Spread.one (Z : Nat → Nat → Int) : Spread Z 1 (Z 0 0) (Z 0 0) := ⟨fun j hj => by rw [show j = 0 by omega]; omega, ⟨0, by omega, rfl⟩, ⟨0, by omega, rfl⟩⟩
theorem Spread.step {Z : Nat → Nat → Int} {k : Nat} {lo hi : Int} (h : Spread Z k lo hi) (lo' hi' : Int) (hlo : lo' = if Z k 0 < lo then Z k 0 else lo) (hhi : hi' = if hi < Z k 0 then Z k 0 else hi) : Spread Z (k + 1) lo' hi' := by
  obtain ⟨h1, ⟨a, ha, ea⟩, ⟨b, hb, eb⟩⟩ := h
  refine ⟨fun j hj => ?_, ?_, ?_⟩
  · by_cases e : j = k
    · subst e; split at hlo <;> split at hhi <;> omega
    · have := h1 j (by omega); split at hlo <;> split at hhi <;> omega
  · split at hlo
    · exact ⟨k, by omega, hlo⟩
    · exact ⟨a, by omega, by rw [hlo]; exact ea⟩
  · split at hhi
    · exact ⟨k, by omega, hhi⟩
    · exact ⟨b, by omega, by rw [hhi]; exact eb⟩
theorem Spread.eq {Z : Nat → Nat → Int} {k : Nat} {lo hi : Int} (h : Spread Z k lo hi) (hk : 0 < k) (e : lo = hi) : AllEq k 0 Z ∧ lo = Z 0 0 := by
  have h0 := h.1 0 hk
  exact ⟨fun i hi' => by have := h.1 i hi'; omega, by omega⟩
theorem Spread.ne {Z : Nat → Nat → Int} {k : Nat} {lo hi : Int} (h : Spread Z k lo hi) (e : lo ≠ hi) : ¬ AllEq k 0 Z := by
  intro ha
  obtain ⟨h1, ⟨a, ha', ea⟩, ⟨b, hb, eb⟩⟩ := h
  have := ha a ha'
  have := ha b hb
  omega

theorem zz_prem' (b o n c : Nat) (Z : Nat → Nat → Int) (w : World) (hn : 0 < n) (hnc : n ≤ c) (hm : n ≤ 32769) (hbw : b < w.heap.size) (hr : Rd w b o n Z) (ok : Bool) (hok : ok = true ↔ AllEq n 0 Z) (v : Int) (hv : v = if ok then Z 0 0 else 0) :
    Calls Try.prog 12 #[.slice (some ⟨b, o, none⟩) n c] w fun e w' => e = .returned (.tuple #[.int .i64 v, .bool ok]) ∧ Below w.heap.size w w' := by
  rw [hv]; exact zz_prem b o n c Z w hn hnc hm hbw hr ok hok

/-- zzBuildEnrollees of the clone, in whatever world has come of it. -/
def BuildPost0 (n : Nat) (Z : Nat → Nat → Int) (w1 : World) (g : Nat) : Prop := ∀ w2, Below w1.heap.size w1 w2 → Calls Try.prog 13 #[.slice (some ⟨g, 0, none⟩) n n] w2 (BuildPost n Z w2)

set_option maxRecDepth 10000 in
set_option maxHeartbeats 4000000 in
theorem law4_in (b o n c : Nat) (cut : Int) (Z : Nat → Nat → Int) (w : World) (hn : 0 < n) (hm : n ≤ 32768) (hbw : b < w.heap.size) (hr : Rd w b o n Z) :
    Calls Try.prog 4 #[.slice (some ⟨b, o, none⟩) n c, .int .i64 cut] w fun e w' => e = .returned (.bool true) ∧ Below w.heap.size w w' := by
  have HR := hid hr
  clear hr
  go_enter Try.func4, Try.ntmps4
  go_wp2_with fail
  refine (bytes4_any _ _ _ _ _ (by omega)).mono ?_
  rintro e w' ⟨rfl, rfl⟩
  go_wp2_with fail
  refine (clone_any b o n c Z _ hn hm hbw HR.out).mono ?_
  rintro e w1 ⟨rfl, hr1, hb1⟩
  have hw1 : w'.heap.size < w1.heap.size := by
    have := hr1 0 hn 0 (by omega)
    exact block_lt_of_cell this
  have r0 : w1.cell? ⟨w'.heap.size, 0, none⟩ = some (.int .i64 (Z 0 0)) := hr1 0 hn 0 (by omega)
  have HR1 := hid hr1
  have HB1 := hid hb1
  have HW1 := hid hw1
  clear hr1 hb1 hw1
  go_wp2_with fail
  go_loopg [5, 6, 7] (n - 1) (fun gn vlo vhi i wr => ∃ (k : Nat) (lo hi : Int), 1 ≤ k ∧ k + gn = n ∧ i = .int .i64 k ∧ vlo = .int .i64 lo ∧ vhi = .int .i64 hi ∧ wr = w1 ∧ Spread Z k lo hi)
  case atStart => exact ⟨1, Z 0 0, Z 0 0, by omega, by omega, rfl, rfl, rfl, rfl, Spread.one Z⟩
  case round =>
    obtain ⟨k, lo, hi, h1, hk, rfl, rfl, rfl, rfl, hs⟩ := hrel
    have HS := hid hs
    clear hs
    by_cases hlt : k < n
    · have rk : wr.cell? ⟨w'.heap.size, k * 4, none⟩ = some (.int .i64 (Z k 0)) := by have := HR1.out k hlt 0 (by omega); simpa using this
      by_cases h2 : Z k 0 < lo
      · by_cases h3 : hi < Z k 0
        · go_wp2_with fail
          go_roundg (gk - 1)
          case measure => omega
          case rel => exact ⟨k + 1, _, _, by omega, by omega, by go_num, rfl, rfl, rfl, HS.out.step _ _ (by split <;> omega) (by split <;> omega)⟩
        · go_wp2_with fail
          go_roundg (gk - 1)
          case measure => omega
          case rel => exact ⟨k + 1, _, _, by omega, by omega, by go_num, rfl, rfl, rfl, HS.out.step _ _ (by split <;> omega) (by split <;> omega)⟩
      · by_cases h3 : hi < Z k 0
        · go_wp2_with fail
          go_roundg (gk - 1)
          case measure => omega
          case rel => exact ⟨k + 1, _, _, by omega, by omega, by go_num, rfl, rfl, rfl, HS.out.step _ _ (by split <;> omega) (by split <;> omega)⟩
        · go_wp2_with fail
          go_roundg (gk - 1)
          case measure => omega
          case rel => exact ⟨k + 1, _, _, by omega, by omega, by go_num, rfl, rfl, rfl, HS.out.step _ _ (by split <;> omega) (by split <;> omega)⟩
    · obtain rfl : k = n := by omega
      clear hk h1
      have BD : Hid (BuildPost0 k Z wr w'.heap.size) := fun w2 hb2 => build_any w'.heap.size 0 k k Z w2 (by omega) (Nat.lt_of_lt_of_le HW1.out hb2.size) (HR1.out.below HW1.out hb2)
      by_cases hq : lo = hi
      · obtain ⟨hall, h0⟩ := HS.out.eq hn hq
        subst h0
        subst hq
        have HA := hid hall
        clear hall HS
        go_wp2_with fail
        refine (BD.out _ (Below.refl _ _)).mono ?_
        rintro e w2 ⟨g2, cap2, rfl, hc2, hg2, hr2, hb2⟩
        have HB2 := hid hb2
        have CT := hid (zz_prem g2 0 k cap2 Z w2 hn hc2 (by omega) hg2 hr2 true (by simpa using HA.out))
        clear hb2 hr2 hg2
        go_wp2_with fail
        refine CT.out.mono ?_
        rintro e w3 ⟨rfl, hb3⟩
        have HB3 := hid (below_chain HB2.out hb3)
        clear hb3 CT HB2
        by_cases hc : 1 ≤ cut
        · by_cases hd : cut < k
          · obtain ⟨t, rfl⟩ := Int.eq_ofNat_of_zero_le (by omega : 0 ≤ cut)
            have ht1 : 1 ≤ t := by omega
            have ht2 : t < k := by omega
            clear hc hd
            go_wp2_with fail
            refine (build_any w'.heap.size 0 t k Z w3 (by omega) (Nat.lt_of_lt_of_le HW1.out HB3.out.size) ((HR1.out.below HW1.out HB3.out).take (by omega))).mono ?_
            rintro e w4 ⟨g4, cap4, rfl, hc4, hg4, hr4, hb4⟩
            have HB4 := hid (below_chain HB3.out hb4)
            have CT4 := hid (zz_prem' g4 0 t cap4 Z w4 (by omega) hc4 (by omega) hg4 hr4 true (⟨fun _ i hi => HA.out i (by omega), fun _ => rfl⟩) (Z 0 0) (rfl))
            clear hb4 hr4 hg4 HB3
            go_wp2_with fail
            refine CT4.out.mono ?_
            rintro e w5 ⟨rfl, hb5⟩
            have HB5 := hid (below_chain HB4.out hb5)
            clear hb5 CT4 HB4
            go_wp2_with fail
            refine (build_any w'.heap.size (t * 4) (k - t) (k - t) (fun i => Z (t + i)) w5 (by omega) (Nat.lt_of_lt_of_le HW1.out HB5.out.size) ((HR1.out.below HW1.out HB5.out).drop (by omega))).mono ?_
            rintro e w6 ⟨g6, cap6, rfl, hc6, hg6, hr6, hb6⟩
            have HB6 := hid (below_chain HB5.out hb6)
            have CT6 := hid (zz_prem' g6 0 (k - t) cap6 (fun i => Z (t + i)) w6 (by omega) hc6 (by omega) hg6 hr6 true (⟨fun _ i hi => (HA.out (t + i) (by omega)).trans (HA.out (t + 0) (by omega)).symm, fun _ => rfl⟩) (Z 0 0) (by simpa using (HA.out t (by omega)).symm))
            clear hb6 hr6 hg6 HB5
            go_wp2_with fail
            refine CT6.out.mono ?_
            rintro e w7 ⟨rfl, hb7⟩
            have HB7 := hid (below_chain HB6.out hb7)
            clear hb7 CT6 HB6
            go_wp2_with fail
            go_ret
            exact ⟨rfl, below_chain HB1.out HB7.out⟩
          · go_wp2_with fail
            go_ret
            exact ⟨rfl, below_chain HB1.out HB3.out⟩
        · go_wp2_with fail
          go_ret
          exact ⟨rfl, below_chain HB1.out HB3.out⟩
      · have hq' : (lo == hi) = false := by simp [hq]
        have HA := hid (HS.out.ne hq)
        clear hq HS
        go_wp2_with fail
        refine (BD.out _ (Below.refl _ _)).mono ?_
        rintro e w2 ⟨g2, cap2, rfl, hc2, hg2, hr2, hb2⟩
        have HB2 := hid hb2
        have CT := hid (zz_prem g2 0 k cap2 Z w2 hn hc2 (by omega) hg2 hr2 false (by simpa using HA.out))
        clear hb2 hr2 hg2
        go_wp2_with fail
        refine CT.out.mono ?_
        rintro e w3 ⟨rfl, hb3⟩
        have HB3 := hid (below_chain HB2.out hb3)
        clear hb3 CT HB2
        by_cases hc : 1 ≤ cut
        · by_cases hd : cut < k
          · obtain ⟨t, rfl⟩ := Int.eq_ofNat_of_zero_le (by omega : 0 ≤ cut)
            have ht1 : 1 ≤ t := by omega
            have ht2 : t < k := by omega
            clear hc hd
            by_cases ho : AllEq t 0 Z
            · have HO := hid ho
              clear ho
              by_cases hob : AllEq (k - t) 0 (fun i => Z (t + i))
              · have HOB := hid hob
                have hne : (Z 0 0 == Z t 0) = false := by
                  rw [beq_eq_false_iff_ne]
                  intro e
                  refine HA.out (fun i hi => ?_)
                  rcases Nat.lt_or_ge i t with h | h
                  · exact HO.out i h
                  · have := hob (i - t) (by omega)
                    simp only [Nat.add_zero] at this
                    rw [show t + (i - t) = i by omega] at this
                    rw [this, e]
                clear hob
                go_wp2_with fail
                refine (build_any w'.heap.size 0 t k Z w3 (by omega) (Nat.lt_of_lt_of_le HW1.out HB3.out.size) ((HR1.out.below HW1.out HB3.out).take (by omega))).mono ?_
                rintro e w4 ⟨g4, cap4, rfl, hc4, hg4, hr4, hb4⟩
                have HB4 := hid (below_chain HB3.out hb4)
                have CT4 := hid (zz_prem' g4 0 t cap4 Z w4 (by omega) hc4 (by omega) hg4 hr4 true (by simpa using HO.out) (Z 0 0) (rfl))
                clear hb4 hr4 hg4 HB3
                go_wp2_with fail
                refine CT4.out.mono ?_
                rintro e w5 ⟨rfl, hb5⟩
                have HB5 := hid (below_chain HB4.out hb5)
                clear hb5 CT4 HB4
                go_wp2_with fail
                refine (build_any w'.heap.size (t * 4) (k - t) (k - t) (fun i => Z (t + i)) w5 (by omega) (Nat.lt_of_lt_of_le HW1.out HB5.out.size) ((HR1.out.below HW1.out HB5.out).drop (by omega))).mono ?_
                rintro e w6 ⟨g6, cap6, rfl, hc6, hg6, hr6, hb6⟩
                have HB6 := hid (below_chain HB5.out hb6)
                have CT6 := hid (zz_prem' g6 0 (k - t) cap6 (fun i => Z (t + i)) w6 (by omega) hc6 (by omega) hg6 hr6 true (by simpa using HOB.out) (Z t 0) (rfl))
                clear hb6 hr6 hg6 HB5
                go_wp2_with fail
                refine CT6.out.mono ?_
                rintro e w7 ⟨rfl, hb7⟩
                have HB7 := hid (below_chain HB6.out hb7)
                clear hb7 CT6 HB6
                go_wp2_with fail
                go_ret
                exact ⟨rfl, below_chain HB1.out HB7.out⟩
              · have HOB := hid hob
                clear hob
                go_wp2_with fail
                refine (build_any w'.heap.size 0 t k Z w3 (by omega) (Nat.lt_of_lt_of_le HW1.out HB3.out.size) ((HR1.out.below HW1.out HB3.out).take (by omega))).mono ?_
                rintro e w4 ⟨g4, cap4, rfl, hc4, hg4, hr4, hb4⟩
                have HB4 := hid (below_chain HB3.out hb4)
                have CT4 := hid (zz_prem' g4 0 t cap4 Z w4 (by omega) hc4 (by omega) hg4 hr4 true (by simpa using HO.out) (Z 0 0) (rfl))
                clear hb4 hr4 hg4 HB3
                go_wp2_with fail
                refine CT4.out.mono ?_
                rintro e w5 ⟨rfl, hb5⟩
                have HB5 := hid (below_chain HB4.out hb5)
                clear hb5 CT4 HB4
                go_wp2_with fail
                refine (build_any w'.heap.size (t * 4) (k - t) (k - t) (fun i => Z (t + i)) w5 (by omega) (Nat.lt_of_lt_of_le HW1.out HB5.out.size) ((HR1.out.below HW1.out HB5.out).drop (by omega))).mono ?_
                rintro e w6 ⟨g6, cap6, rfl, hc6, hg6, hr6, hb6⟩
                have HB6 := hid (below_chain HB5.out hb6)
                have CT6 := hid (zz_prem' g6 0 (k - t) cap6 (fun i => Z (t + i)) w6 (by omega) hc6 (by omega) hg6 hr6 false (by simpa using HOB.out) 0 (rfl))
                clear hb6 hr6 hg6 HB5
                go_wp2_with fail
                refine CT6.out.mono ?_
                rintro e w7 ⟨rfl, hb7⟩
                have HB7 := hid (below_chain HB6.out hb7)
                clear hb7 CT6 HB6
                go_wp2_with fail
                go_ret
                exact ⟨rfl, below_chain HB1.out HB7.out⟩
            · have HO := hid ho
              clear ho
              obtain ⟨okb, hokb⟩ : ∃ okb : Bool, okb = true ↔ AllEq (k - t) 0 (fun i => Z (t + i)) := by
                by_cases h : AllEq (k - t) 0 (fun i => Z (t + i))
                · exact ⟨true, by simpa using h⟩
                · exact ⟨false, by simpa using h⟩
              have HOB := hid hokb
              obtain ⟨vb, hvb⟩ : ∃ vb : Int, vb = if okb then Z (t + 0) 0 else 0 := ⟨_, rfl⟩
              have HVB := hid hvb
              clear hokb hvb
              go_wp2_with fail
              refine (build_any w'.heap.size 0 t k Z w3 (by omega) (Nat.lt_of_lt_of_le HW1.out HB3.out.size) ((HR1.out.below HW1.out HB3.out).take (by omega))).mono ?_
              rintro e w4 ⟨g4, cap4, rfl, hc4, hg4, hr4, hb4⟩
              have HB4 := hid (below_chain HB3.out hb4)
              have CT4 := hid (zz_prem' g4 0 t cap4 Z w4 (by omega) hc4 (by omega) hg4 hr4 false (by simpa using HO.out) 0 (rfl))
              clear hb4 hr4 hg4 HB3
              go_wp2_with fail
              refine CT4.out.mono ?_
              rintro e w5 ⟨rfl, hb5⟩
              have HB5 := hid (below_chain HB4.out hb5)
              clear hb5 CT4 HB4
              go_wp2_with fail
              refine (build_any w'.heap.size (t * 4) (k - t) (k - t) (fun i => Z (t + i)) w5 (by omega) (Nat.lt_of_lt_of_le HW1.out HB5.out.size) ((HR1.out.below HW1.out HB5.out).drop (by omega))).mono ?_
              rintro e w6 ⟨g6, cap6, rfl, hc6, hg6, hr6, hb6⟩
              have HB6 := hid (below_chain HB5.out hb6)
              have CT6 := hid (zz_prem' g6 0 (k - t) cap6 (fun i => Z (t + i)) w6 (by omega) hc6 (by omega) hg6 hr6 okb (HOB.out) vb (HVB.out))
              clear hb6 hr6 hg6 HB5
              go_wp2_with fail
              refine CT6.out.mono ?_
              rintro e w7 ⟨rfl, hb7⟩
              have HB7 := hid (below_chain HB6.out hb7)
              clear hb7 CT6 HB6
              go_wp2_with fail
              go_ret
              exact ⟨rfl, below_chain HB1.out HB7.out⟩
          · go_wp2_with fail
            go_ret
            exact ⟨rfl, below_chain HB1.out HB3.out⟩
        · go_wp2_with fail
          go_ret
          exact ⟨rfl, below_chain HB1.out HB3.out⟩
end Go.Proofs.Qxb6608960a
