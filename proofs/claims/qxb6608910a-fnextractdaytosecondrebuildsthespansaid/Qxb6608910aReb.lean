/- The walk of 'FnExtractDayToSecondRebuildsTheSpan' within its range, field by field. -/
import Derived.Test.Qxb6608910aOdd
namespace Go.Proofs.Qxb6608910a
open Go.RowKit
set_option linter.unusedVariables false

/-- All that the law asks of the four fields. -/
theorem parts (a : Int) (h1 : -315537897600000000 ≤ a) (h2 : a ≤ 315537897600000000) :
    -3652059 ≤ (fld a 3).1 ∧ (fld a 3).1 ≤ 3652059 ∧ -23 ≤ (fld a 4).1 ∧ (fld a 4).1 ≤ 23 ∧ -59 ≤ (fld a 5).1 ∧ (fld a 5).1 ≤ 59 ∧
    -59999999 ≤ a.tmod 60000000 ∧ a.tmod 60000000 ≤ 59999999 ∧
    sgn (fld a 3).1 a = true ∧ sgn (fld a 4).1 a = true ∧ sgn (fld a 5).1 a = true ∧ sgn (a.tmod 60000000) a = true ∧
    (fld a 3).1 * 86400000000 + (fld a 4).1 * 3600000000 + (fld a 5).1 * 60000000 + a.tmod 60000000 = a := by
  rw [fld_3, fld_4, fld_5]
  have t1 := tdiv_cases a 86400000000
  have t2 := tdiv_cases a 3600000000
  have t3 := tdiv_cases (a.tdiv 3600000000) 24
  have t4 := tdiv_cases a 60000000
  have t5 := tdiv_cases (a.tdiv 60000000) 60
  have s : ∀ v : Int, (0 < a → 0 ≤ v) → (a < 0 → v ≤ 0) → (a = 0 → v = 0) → sgn v a = true := by
    intro v p q r
    unfold sgn
    split
    · simpa using p (by assumption)
    split
    · simpa using q (by assumption)
    · simpa using r (by omega)
  refine ⟨by omega, by omega, by omega, by omega, by omega, by omega, by omega, by omega, ?_, ?_, ?_, ?_, by omega⟩
  all_goals (apply s <;> intro _ <;> omega)

theorem pow10_sub (ssc : Nat) (W : World) (h : ssc ≤ 6) :
    Calls Try.prog 6 #[.int .i64 (6 - (ssc : Int))] W fun e w' => e = .returned (.int .i64 (pw10 (6 - ssc))) ∧ w' = W := by
  have e : (6 - (ssc : Int)) = ((6 - ssc : Nat) : Int) := by omega
  rw [e]
  exact pow10_any (6 - ssc) W (by omega)
theorem sign_true (v x : Int) (h : sgn v x = true) (W : World) :
    Calls Try.prog 7 #[.int .i64 v, .int .i64 x] W fun e w' => e = .returned (.bool true) ∧ w' = W := by
  have := sign_any v x W
  rw [h] at this
  exact this

set_option maxRecDepth 100000 in
set_option maxHeartbeats 1000000 in
theorem reb3a (a : Int) (w : World) (h1 : -315537897600000000 ≤ a) (h2 : a ≤ 315537897600000000) (hz : 0 < (fld a 6).2) :
    Calls Try.prog 3 #[.int .i64 a, .int .i64 3] w fun e w' => e = .returned (.bool true) ∧ Grown w w' := by
  have c3 := hid fun W => zzextract_any a 3 W h1 h2 (by omega)
  have c4 := hid fun W => zzextract_any a 4 W h1 h2 (by omega)
  have c5 := hid fun W => zzextract_any a 5 W h1 h2 (by omega)
  have c6 := hid fun W => zzextract_any a 6 W h1 h2 (by omega)
  obtain ⟨d1, d2, e1, e2, m1, m2, s1, s2, g3, g4, g5, g6, hs⟩ := parts a h1 h2
  obtain ⟨k1, k2, k3, k4, k5⟩ := fld_6 a
  have q3 : (fld a 3).2 = 0 := rfl
  have q4 : (fld a 4).2 = 0 := rfl
  have q5 : (fld a 5).2 = 0 := rfl
  rw [q3] at c3
  rw [q4] at c4
  rw [q5] at c5
  clear q3 q4 q5
  generalize (fld a 3).1 = du at *
  generalize (fld a 4).1 = hu at *
  generalize (fld a 5).1 = mu at *
  generalize (fld a 6).1 = su at *
  generalize (fld a 6).2 = ssc at *
  have hb : (su.tmod 10 == 0) = false := by simpa using k2 hz
  clear k2
  have cp := hid fun W => pow10_sub ssc W k1
  generalize pw10 (6 - ssc) = p at *
  generalize a.tmod 60000000 = sm at *
  have hp : wrap64 (su * p) = sm := by rw [k5]; unfold wrap64; omega
  have G3 := hid (sign_true _ _ g3)
  have G4 := hid (sign_true _ _ g4)
  have G5 := hid (sign_true _ _ g5)
  have G6 := hid (sign_true _ _ g6)
  clear k5 g3 g4 g5 g6
  go_enter Try.func3, Try.ntmps3
  go_wp2_with fail
  refine (c3.out _).mono ?_
  rintro e w1 ⟨rfl, r1⟩
  go_wp2_with fail
  refine (c3.out _).mono ?_
  rintro e w2 ⟨rfl, r2⟩
  go_wp2_with fail
  refine (c4.out _).mono ?_
  rintro e w3 ⟨rfl, r3⟩
  go_wp2_with fail
  refine (c5.out _).mono ?_
  rintro e w4 ⟨rfl, r4⟩
  go_wp2_with fail
  refine (c6.out _).mono ?_
  rintro e w5 ⟨rfl, r5⟩
  go_wp2_with fail
  refine (cp.out _).mono ?_
  rintro e w6 ⟨rfl, hw6⟩
  subst hw6
  go_wp2_with fail
  refine (G3.out _).mono ?_
  rintro e w7 ⟨rfl, hw7⟩
  subst hw7
  go_wp2_with fail
  refine (G4.out _).mono ?_
  rintro e w8 ⟨rfl, hw8⟩
  subst hw8
  go_wp2_with fail
  refine (G5.out _).mono ?_
  rintro e w9 ⟨rfl, hw9⟩
  subst hw9
  go_wp2_with fail
  refine (G6.out _).mono ?_
  rintro e w10 ⟨rfl, hw10⟩
  subst hw10
  go_wp2_with fail
  go_ret
  exact ⟨rfl, grown_trans r1 (grown_trans r2 (grown_trans r3 (grown_trans r4 r5)))⟩

set_option maxRecDepth 100000 in
set_option maxHeartbeats 1000000 in
theorem reb3b (a : Int) (w : World) (h1 : -315537897600000000 ≤ a) (h2 : a ≤ 315537897600000000) (hz : (fld a 6).2 = 0) :
    Calls Try.prog 3 #[.int .i64 a, .int .i64 3] w fun e w' => e = .returned (.bool true) ∧ Grown w w' := by
  have c3 := hid fun W => zzextract_any a 3 W h1 h2 (by omega)
  have c4 := hid fun W => zzextract_any a 4 W h1 h2 (by omega)
  have c5 := hid fun W => zzextract_any a 5 W h1 h2 (by omega)
  have c6 := hid fun W => zzextract_any a 6 W h1 h2 (by omega)
  obtain ⟨d1, d2, e1, e2, m1, m2, s1, s2, g3, g4, g5, g6, hs⟩ := parts a h1 h2
  obtain ⟨k1, k2, k3, k4, k5⟩ := fld_6 a
  have q3 : (fld a 3).2 = 0 := rfl
  have q4 : (fld a 4).2 = 0 := rfl
  have q5 : (fld a 5).2 = 0 := rfl
  rw [q3] at c3
  rw [q4] at c4
  rw [q5] at c5
  clear q3 q4 q5
  generalize (fld a 3).1 = du at *
  generalize (fld a 4).1 = hu at *
  generalize (fld a 5).1 = mu at *
  generalize (fld a 6).1 = su at *
  generalize (fld a 6).2 = ssc at *
  subst hz
  clear k2
  replace k5 : su * pw10 6 = a.tmod 60000000 := k5
  have cp := hid fun W => pow10_any 6 W (by omega)
  generalize pw10 6 = p at *
  generalize a.tmod 60000000 = sm at *
  have hp : wrap64 (su * p) = sm := by rw [k5]; unfold wrap64; omega
  have G3 := hid (sign_true _ _ g3)
  have G4 := hid (sign_true _ _ g4)
  have G5 := hid (sign_true _ _ g5)
  have G6 := hid (sign_true _ _ g6)
  clear k5 g3 g4 g5 g6
  go_enter Try.func3, Try.ntmps3
  go_wp2_with fail
  refine (c3.out _).mono ?_
  rintro e w1 ⟨rfl, r1⟩
  go_wp2_with fail
  refine (c3.out _).mono ?_
  rintro e w2 ⟨rfl, r2⟩
  go_wp2_with fail
  refine (c4.out _).mono ?_
  rintro e w3 ⟨rfl, r3⟩
  go_wp2_with fail
  refine (c5.out _).mono ?_
  rintro e w4 ⟨rfl, r4⟩
  go_wp2_with fail
  refine (c6.out _).mono ?_
  rintro e w5 ⟨rfl, r5⟩
  go_wp2_with fail
  refine (cp.out _).mono ?_
  rintro e w6 ⟨rfl, hw6⟩
  subst hw6
  go_wp2_with fail
  refine (G3.out _).mono ?_
  rintro e w7 ⟨rfl, hw7⟩
  subst hw7
  go_wp2_with fail
  refine (G4.out _).mono ?_
  rintro e w8 ⟨rfl, hw8⟩
  subst hw8
  go_wp2_with fail
  refine (G5.out _).mono ?_
  rintro e w9 ⟨rfl, hw9⟩
  subst hw9
  go_wp2_with fail
  refine (G6.out _).mono ?_
  rintro e w10 ⟨rfl, hw10⟩
  subst hw10
  go_wp2_with fail
  go_ret
  exact ⟨rfl, grown_trans r1 (grown_trans r2 (grown_trans r3 (grown_trans r4 r5)))⟩

set_option maxRecDepth 100000 in
set_option maxHeartbeats 1000000 in
theorem reb4a (a : Int) (w : World) (h1 : -315537897600000000 ≤ a) (h2 : a ≤ 315537897600000000) (hz : 0 < (fld a 6).2) :
    Calls Try.prog 3 #[.int .i64 a, .int .i64 4] w fun e w' => e = .returned (.bool true) ∧ Grown w w' := by
  have c3 := hid fun W => zzextract_any a 3 W h1 h2 (by omega)
  have c4 := hid fun W => zzextract_any a 4 W h1 h2 (by omega)
  have c5 := hid fun W => zzextract_any a 5 W h1 h2 (by omega)
  have c6 := hid fun W => zzextract_any a 6 W h1 h2 (by omega)
  obtain ⟨d1, d2, e1, e2, m1, m2, s1, s2, g3, g4, g5, g6, hs⟩ := parts a h1 h2
  obtain ⟨k1, k2, k3, k4, k5⟩ := fld_6 a
  have q3 : (fld a 3).2 = 0 := rfl
  have q4 : (fld a 4).2 = 0 := rfl
  have q5 : (fld a 5).2 = 0 := rfl
  rw [q3] at c3
  rw [q4] at c4
  rw [q5] at c5
  clear q3 q4 q5
  generalize (fld a 3).1 = du at *
  generalize (fld a 4).1 = hu at *
  generalize (fld a 5).1 = mu at *
  generalize (fld a 6).1 = su at *
  generalize (fld a 6).2 = ssc at *
  have hb : (su.tmod 10 == 0) = false := by simpa using k2 hz
  clear k2
  have cp := hid fun W => pow10_sub ssc W k1
  generalize pw10 (6 - ssc) = p at *
  generalize a.tmod 60000000 = sm at *
  have hp : wrap64 (su * p) = sm := by rw [k5]; unfold wrap64; omega
  have G3 := hid (sign_true _ _ g3)
  have G4 := hid (sign_true _ _ g4)
  have G5 := hid (sign_true _ _ g5)
  have G6 := hid (sign_true _ _ g6)
  clear k5 g3 g4 g5 g6
  go_enter Try.func3, Try.ntmps3
  go_wp2_with fail
  refine (c4.out _).mono ?_
  rintro e w1 ⟨rfl, r1⟩
  go_wp2_with fail
  refine (c3.out _).mono ?_
  rintro e w2 ⟨rfl, r2⟩
  go_wp2_with fail
  refine (c4.out _).mono ?_
  rintro e w3 ⟨rfl, r3⟩
  go_wp2_with fail
  refine (c5.out _).mono ?_
  rintro e w4 ⟨rfl, r4⟩
  go_wp2_with fail
  refine (c6.out _).mono ?_
  rintro e w5 ⟨rfl, r5⟩
  go_wp2_with fail
  refine (cp.out _).mono ?_
  rintro e w6 ⟨rfl, hw6⟩
  subst hw6
  go_wp2_with fail
  refine (G3.out _).mono ?_
  rintro e w7 ⟨rfl, hw7⟩
  subst hw7
  go_wp2_with fail
  refine (G4.out _).mono ?_
  rintro e w8 ⟨rfl, hw8⟩
  subst hw8
  go_wp2_with fail
  refine (G5.out _).mono ?_
  rintro e w9 ⟨rfl, hw9⟩
  subst hw9
  go_wp2_with fail
  refine (G6.out _).mono ?_
  rintro e w10 ⟨rfl, hw10⟩
  subst hw10
  go_wp2_with fail
  go_ret
  exact ⟨rfl, grown_trans r1 (grown_trans r2 (grown_trans r3 (grown_trans r4 r5)))⟩

set_option maxRecDepth 100000 in
set_option maxHeartbeats 1000000 in
theorem reb4b (a : Int) (w : World) (h1 : -315537897600000000 ≤ a) (h2 : a ≤ 315537897600000000) (hz : (fld a 6).2 = 0) :
    Calls Try.prog 3 #[.int .i64 a, .int .i64 4] w fun e w' => e = .returned (.bool true) ∧ Grown w w' := by
  have c3 := hid fun W => zzextract_any a 3 W h1 h2 (by omega)
  have c4 := hid fun W => zzextract_any a 4 W h1 h2 (by omega)
  have c5 := hid fun W => zzextract_any a 5 W h1 h2 (by omega)
  have c6 := hid fun W => zzextract_any a 6 W h1 h2 (by omega)
  obtain ⟨d1, d2, e1, e2, m1, m2, s1, s2, g3, g4, g5, g6, hs⟩ := parts a h1 h2
  obtain ⟨k1, k2, k3, k4, k5⟩ := fld_6 a
  have q3 : (fld a 3).2 = 0 := rfl
  have q4 : (fld a 4).2 = 0 := rfl
  have q5 : (fld a 5).2 = 0 := rfl
  rw [q3] at c3
  rw [q4] at c4
  rw [q5] at c5
  clear q3 q4 q5
  generalize (fld a 3).1 = du at *
  generalize (fld a 4).1 = hu at *
  generalize (fld a 5).1 = mu at *
  generalize (fld a 6).1 = su at *
  generalize (fld a 6).2 = ssc at *
  subst hz
  clear k2
  replace k5 : su * pw10 6 = a.tmod 60000000 := k5
  have cp := hid fun W => pow10_any 6 W (by omega)
  generalize pw10 6 = p at *
  generalize a.tmod 60000000 = sm at *
  have hp : wrap64 (su * p) = sm := by rw [k5]; unfold wrap64; omega
  have G3 := hid (sign_true _ _ g3)
  have G4 := hid (sign_true _ _ g4)
  have G5 := hid (sign_true _ _ g5)
  have G6 := hid (sign_true _ _ g6)
  clear k5 g3 g4 g5 g6
  go_enter Try.func3, Try.ntmps3
  go_wp2_with fail
  refine (c4.out _).mono ?_
  rintro e w1 ⟨rfl, r1⟩
  go_wp2_with fail
  refine (c3.out _).mono ?_
  rintro e w2 ⟨rfl, r2⟩
  go_wp2_with fail
  refine (c4.out _).mono ?_
  rintro e w3 ⟨rfl, r3⟩
  go_wp2_with fail
  refine (c5.out _).mono ?_
  rintro e w4 ⟨rfl, r4⟩
  go_wp2_with fail
  refine (c6.out _).mono ?_
  rintro e w5 ⟨rfl, r5⟩
  go_wp2_with fail
  refine (cp.out _).mono ?_
  rintro e w6 ⟨rfl, hw6⟩
  subst hw6
  go_wp2_with fail
  refine (G3.out _).mono ?_
  rintro e w7 ⟨rfl, hw7⟩
  subst hw7
  go_wp2_with fail
  refine (G4.out _).mono ?_
  rintro e w8 ⟨rfl, hw8⟩
  subst hw8
  go_wp2_with fail
  refine (G5.out _).mono ?_
  rintro e w9 ⟨rfl, hw9⟩
  subst hw9
  go_wp2_with fail
  refine (G6.out _).mono ?_
  rintro e w10 ⟨rfl, hw10⟩
  subst hw10
  go_wp2_with fail
  go_ret
  exact ⟨rfl, grown_trans r1 (grown_trans r2 (grown_trans r3 (grown_trans r4 r5)))⟩

end Go.Proofs.Qxb6608910a
