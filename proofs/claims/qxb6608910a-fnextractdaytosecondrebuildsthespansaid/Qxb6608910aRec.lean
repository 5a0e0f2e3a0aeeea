/- The walk of 'FnExtractDayToSecondRebuildsTheSpan' within its range, the other two fields. -/
import Derived.Test.Qxb6608910aReb
namespace Go.Proofs.Qxb6608910a
open Go.RowKit
set_option linter.unusedVariables false

set_option maxRecDepth 100000 in
set_option maxHeartbeats 1000000 in
theorem reb5a (a : Int) (w : World) (h1 : -315537897600000000 ≤ a) (h2 : a ≤ 315537897600000000) (hz : 0 < (fld a 6).2) :
    Calls Try.prog 3 #[.int .i64 a, .int .i64 5] w fun e w' => e = .returned (.bool true) ∧ Grown w w' := by
  have c3 := hid fun W => zzextract_any a 3 W h1 h2 (by omega)
  have c4 := hid fun W => zzextract_any a 4 W h1 h2 (by omega)
  have c5 := hid fun W => zzextract_any a 5 W h1 h2 (by omega)
  have c6 := hid fun W => zzextract_any a 6 W h1 h2 (by omega)
  obtain ⟨d1, d2, e1, e2, m1, m2, s1, s2, g3, g4, g5, g6, hs⟩ := parts a h1 h2
  obtain ⟨k1, k2, k3, k4, k5⟩ := fld_6 a
  have q3 : (fld a 3).2 = 0 := rfl
  have q4 : (fld a 4).2 = 0 := rfl
  have q5 : (fld a 5).2 = 0 := rfl
  rw [q3] at c3
  rw [q4] at c4
  rw [q5] at c5
  clear q3 q4 q5
  generalize (fld a 3).1 = du at *
  generalize (fld a 4).1 = hu at *
  generalize (fld a 5).1 = mu at *
  generalize (fld a 6).1 = su at *
  generalize (fld a 6).2 = ssc at *
  have hb : (su.tmod 10 == 0) = false := by simpa using k2 hz
  clear k2
  have cp := hid fun W => pow10_sub ssc W k1
  generalize pw10 (6 - ssc) = p at *
  generalize a.tmod 60000000 = sm at *
  have hp : wrap64 (su * p) = sm := by rw [k5]; unfold wrap64; omega
  have G3 := hid (sign_true _ _ g3)
  have G4 := hid (sign_true _ _ g4)
  have G5 := hid (sign_true _ _ g5)
  have G6 := hid (sign_true _ _ g6)
  clear k5 g3 g4 g5 g6
  go_enter Try.func3, Try.ntmps3
  go_wp2_with fail
  refine (c5.out _).mono ?_
  rintro e w1 ⟨rfl, r1⟩
  go_wp2_with fail
  refine (c3.out _).mono ?_
  rintro e w2 ⟨rfl, r2⟩
  go_wp2_with fail
  refine (c4.out _).mono ?_
  rintro e w3 ⟨rfl, r3⟩
  go_wp2_with fail
  refine (c5.out _).mono ?_
  rintro e w4 ⟨rfl, r4⟩
  go_wp2_with fail
  refine (c6.out _).mono ?_
  rintro e w5 ⟨rfl, r5⟩
  go_wp2_with fail
  refine (cp.out _).mono ?_
  rintro e w6 ⟨rfl, hw6⟩
  subst hw6
  go_wp2_with fail
  refine (G3.out _).mono ?_
  rintro e w7 ⟨rfl, hw7⟩
  subst hw7
  go_wp2_with fail
  refine (G4.out _).mono ?_
  rintro e w8 ⟨rfl, hw8⟩
  subst hw8
  go_wp2_with fail
  refine (G5.out _).mono ?_
  rintro e w9 ⟨rfl, hw9⟩
  subst hw9
  go_wp2_with fail
  refine (G6.out _).mono ?_
  rintro e w10 ⟨rfl, hw10⟩
  subst hw10
  go_wp2_with fail
  go_ret
  exact ⟨rfl, grown_trans r1 (grown_trans r2 (grown_trans r3 (grown_trans r4 r5)))⟩

set_option maxRecDepth 100000 in
set_option maxHeartbeats 1000000 in
theorem reb5b (a : Int) (w : World) (h1 : -315537897600000000 ≤ a) (h2 : a ≤ 315537897600000000) (hz : (fld a 6).2 = 0) :
    Calls Try.prog 3 #[.int .i64 a, .int .i64 5] w fun e w' => e = .returned (.bool true) ∧ Grown w w' := by
  have c3 := hid fun W => zzextract_any a 3 W h1 h2 (by omega)
  have c4 := hid fun W => zzextract_any a 4 W h1 h2 (by omega)
  have c5 := hid fun W => zzextract_any a 5 W h1 h2 (by omega)
  have c6 := hid fun W => zzextract_any a 6 W h1 h2 (by omega)
  obtain ⟨d1, d2, e1, e2, m1, m2, s1, s2, g3, g4, g5, g6, hs⟩ := parts a h1 h2
  obtain ⟨k1, k2, k3, k4, k5⟩ := fld_6 a
  have q3 : (fld a 3).2 = 0 := rfl
  have q4 : (fld a 4).2 = 0 := rfl
  have q5 : (fld a 5).2 = 0 := rfl
  rw [q3] at c3
  rw [q4] at c4
  rw [q5] at c5
  clear q3 q4 q5
  generalize (fld a 3).1 = du at *
  generalize (fld a 4).1 = hu at *
  generalize (fld a 5).1 = mu at *
  generalize (fld a 6).1 = su at *
  generalize (fld a 6).2 = ssc at *
  subst hz
  clear k2
  replace k5 : su * pw10 6 = a.tmod 60000000 := k5
  have cp := hid fun W => pow10_any 6 W (by omega)
  generalize pw10 6 = p at *
  generalize a.tmod 60000000 = sm at *
  have hp : wrap64 (su * p) = sm := by rw [k5]; unfold wrap64; omega
  have G3 := hid (sign_true _ _ g3)
  have G4 := hid (sign_true _ _ g4)
  have G5 := hid (sign_true _ _ g5)
  have G6 := hid (sign_true _ _ g6)
  clear k5 g3 g4 g5 g6
  go_enter Try.func3, Try.ntmps3
  go_wp2_with fail
  refine (c5.out _).mono ?_
  rintro e w1 ⟨rfl, r1⟩
  go_wp2_with fail
  refine (c3.out _).mono ?_
  rintro e w2 ⟨rfl, r2⟩
  go_wp2_with fail
  refine (c4.out _).mono ?_
  rintro e w3 ⟨rfl, r3⟩
  go_wp2_with fail
  refine (c5.out _).mono ?_
  rintro e w4 ⟨rfl, r4⟩
  go_wp2_with fail
  refine (c6.out _).mono ?_
  rintro e w5 ⟨rfl, r5⟩
  go_wp2_with fail
  refine (cp.out _).mono ?_
  rintro e w6 ⟨rfl, hw6⟩
  subst hw6
  go_wp2_with fail
  refine (G3.out _).mono ?_
  rintro e w7 ⟨rfl, hw7⟩
  subst hw7
  go_wp2_with fail
  refine (G4.out _).mono ?_
  rintro e w8 ⟨rfl, hw8⟩
  subst hw8
  go_wp2_with fail
  refine (G5.out _).mono ?_
  rintro e w9 ⟨rfl, hw9⟩
  subst hw9
  go_wp2_with fail
  refine (G6.out _).mono ?_
  rintro e w10 ⟨rfl, hw10⟩
  subst hw10
  go_wp2_with fail
  go_ret
  exact ⟨rfl, grown_trans r1 (grown_trans r2 (grown_trans r3 (grown_trans r4 r5)))⟩

set_option maxRecDepth 100000 in
set_option maxHeartbeats 1000000 in
theorem reb6a (a : Int) (w : World) (h1 : -315537897600000000 ≤ a) (h2 : a ≤ 315537897600000000) (hz : 0 < (fld a 6).2) :
    Calls Try.prog 3 #[.int .i64 a, .int .i64 6] w fun e w' => e = .returned (.bool true) ∧ Grown w w' := by
  have c3 := hid fun W => zzextract_any a 3 W h1 h2 (by omega)
  have c4 := hid fun W => zzextract_any a 4 W h1 h2 (by omega)
  have c5 := hid fun W => zzextract_any a 5 W h1 h2 (by omega)
  have c6 := hid fun W => zzextract_any a 6 W h1 h2 (by omega)
  obtain ⟨d1, d2, e1, e2, m1, m2, s1, s2, g3, g4, g5, g6, hs⟩ := parts a h1 h2
  obtain ⟨k1, k2, k3, k4, k5⟩ := fld_6 a
  have q3 : (fld a 3).2 = 0 := rfl
  have q4 : (fld a 4).2 = 0 := rfl
  have q5 : (fld a 5).2 = 0 := rfl
  rw [q3] at c3
  rw [q4] at c4
  rw [q5] at c5
  clear q3 q4 q5
  generalize (fld a 3).1 = du at *
  generalize (fld a 4).1 = hu at *
  generalize (fld a 5).1 = mu at *
  generalize (fld a 6).1 = su at *
  generalize (fld a 6).2 = ssc at *
  have hb : (su.tmod 10 == 0) = false := by simpa using k2 hz
  clear k2
  have cp := hid fun W => pow10_sub ssc W k1
  generalize pw10 (6 - ssc) = p at *
  generalize a.tmod 60000000 = sm at *
  have hp : wrap64 (su * p) = sm := by rw [k5]; unfold wrap64; omega
  have G3 := hid (sign_true _ _ g3)
  have G4 := hid (sign_true _ _ g4)
  have G5 := hid (sign_true _ _ g5)
  have G6 := hid (sign_true _ _ g6)
  clear k5 g3 g4 g5 g6
  go_enter Try.func3, Try.ntmps3
  go_wp2_with fail
  refine (c6.out _).mono ?_
  rintro e w1 ⟨rfl, r1⟩
  go_wp2_with fail
  refine (c3.out _).mono ?_
  rintro e w2 ⟨rfl, r2⟩
  go_wp2_with fail
  refine (c4.out _).mono ?_
  rintro e w3 ⟨rfl, r3⟩
  go_wp2_with fail
  refine (c5.out _).mono ?_
  rintro e w4 ⟨rfl, r4⟩
  go_wp2_with fail
  refine (c6.out _).mono ?_
  rintro e w5 ⟨rfl, r5⟩
  go_wp2_with fail
  refine (cp.out _).mono ?_
  rintro e w6 ⟨rfl, hw6⟩
  subst hw6
  go_wp2_with fail
  refine (G3.out _).mono ?_
  rintro e w7 ⟨rfl, hw7⟩
  subst hw7
  go_wp2_with fail
  refine (G4.out _).mono ?_
  rintro e w8 ⟨rfl, hw8⟩
  subst hw8
  go_wp2_with fail
  refine (G5.out _).mono ?_
  rintro e w9 ⟨rfl, hw9⟩
  subst hw9
  go_wp2_with fail
  refine (G6.out _).mono ?_
  rintro e w10 ⟨rfl, hw10⟩
  subst hw10
  go_wp2_with fail
  go_ret
  exact ⟨rfl, grown_trans r1 (grown_trans r2 (grown_trans r3 (grown_trans r4 r5)))⟩

set_option maxRecDepth 100000 in
set_option maxHeartbeats 1000000 in
theorem reb6b (a : Int) (w : World) (h1 : -315537897600000000 ≤ a) (h2 : a ≤ 315537897600000000) (hz : (fld a 6).2 = 0) :
    Calls Try.prog 3 #[.int .i64 a, .int .i64 6] w fun e w' => e = .returned (.bool true) ∧ Grown w w' := by
  have c3 := hid fun W => zzextract_any a 3 W h1 h2 (by omega)
  have c4 := hid fun W => zzextract_any a 4 W h1 h2 (by omega)
  have c5 := hid fun W => zzextract_any a 5 W h1 h2 (by omega)
  have c6 := hid fun W => zzextract_any a 6 W h1 h2 (by omega)
  obtain ⟨d1, d2, e1, e2, m1, m2, s1, s2, g3, g4, g5, g6, hs⟩ := parts a h1 h2
  obtain ⟨k1, k2, k3, k4, k5⟩ := fld_6 a
  have q3 : (fld a 3).2 = 0 := rfl
  have q4 : (fld a 4).2 = 0 := rfl
  have q5 : (fld a 5).2 = 0 := rfl
  rw [q3] at c3
  rw [q4] at c4
  rw [q5] at c5
  clear q3 q4 q5
  generalize (fld a 3).1 = du at *
  generalize (fld a 4).1 = hu at *
  generalize (fld a 5).1 = mu at *
  generalize (fld a 6).1 = su at *
  generalize (fld a 6).2 = ssc at *
  subst hz
  clear k2
  replace k5 : su * pw10 6 = a.tmod 60000000 := k5
  have cp := hid fun W => pow10_any 6 W (by omega)
  generalize pw10 6 = p at *
  generalize a.tmod 60000000 = sm at *
  have hp : wrap64 (su * p) = sm := by rw [k5]; unfold wrap64; omega
  have G3 := hid (sign_true _ _ g3)
  have G4 := hid (sign_true _ _ g4)
  have G5 := hid (sign_true _ _ g5)
  have G6 := hid (sign_true _ _ g6)
  clear k5 g3 g4 g5 g6
  go_enter Try.func3, Try.ntmps3
  go_wp2_with fail
  refine (c6.out _).mono ?_
  rintro e w1 ⟨rfl, r1⟩
  go_wp2_with fail
  refine (c3.out _).mono ?_
  rintro e w2 ⟨rfl, r2⟩
  go_wp2_with fail
  refine (c4.out _).mono ?_
  rintro e w3 ⟨rfl, r3⟩
  go_wp2_with fail
  refine (c5.out _).mono ?_
  rintro e w4 ⟨rfl, r4⟩
  go_wp2_with fail
  refine (c6.out _).mono ?_
  rintro e w5 ⟨rfl, r5⟩
  go_wp2_with fail
  refine (cp.out _).mono ?_
  rintro e w6 ⟨rfl, hw6⟩
  subst hw6
  go_wp2_with fail
  refine (G3.out _).mono ?_
  rintro e w7 ⟨rfl, hw7⟩
  subst hw7
  go_wp2_with fail
  refine (G4.out _).mono ?_
  rintro e w8 ⟨rfl, hw8⟩
  subst hw8
  go_wp2_with fail
  refine (G5.out _).mono ?_
  rintro e w9 ⟨rfl, hw9⟩
  subst hw9
  go_wp2_with fail
  refine (G6.out _).mono ?_
  rintro e w10 ⟨rfl, hw10⟩
  subst hw10
  go_wp2_with fail
  go_ret
  exact ⟨rfl, grown_trans r1 (grown_trans r2 (grown_trans r3 (grown_trans r4 r5)))⟩


theorem reb_in (a f : Int) (w : World) (h1 : -315537897600000000 ≤ a) (h2 : a ≤ 315537897600000000) (f1 : 3 ≤ f) (f2 : f ≤ 6) :
    Calls Try.prog 3 #[.int .i64 a, .int .i64 f] w fun e w' => e = .returned (.bool true) ∧ Grown w w' := by
  have hf : f = 3 ∨ f = 4 ∨ f = 5 ∨ f = 6 := by omega
  have hz : (fld a 6).2 = 0 ∨ 0 < (fld a 6).2 := by omega
  rcases hz with hz | hz
  · rcases hf with rfl | rfl | rfl | rfl
    · exact reb3b a w h1 h2 hz
    · exact reb4b a w h1 h2 hz
    · exact reb5b a w h1 h2 hz
    · exact reb6b a w h1 h2 hz
  · rcases hf with rfl | rfl | rfl | rfl
    · exact reb3a a w h1 h2 hz
    · exact reb4a a w h1 h2 hz
    · exact reb5a a w h1 h2 hz
    · exact reb6a a w h1 h2 hz
end Go.Proofs.Qxb6608910a
