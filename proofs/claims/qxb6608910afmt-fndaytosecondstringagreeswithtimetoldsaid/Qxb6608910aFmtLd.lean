/- FnDayToSecondStringNegationAndDays, at this seat's dump, fmt's text told. -/
import Derived.Test.Qxb6608910aFmtS
namespace Go.Proofs.Qxb6608910aFmt
open Go.Extern.Stop Go.Stop Go.Extern Go.RowKit Go.Kit
set_option linter.unusedVariables false

theorem answers_below {F : Interp} {B : Nat} {w w' : World} (h : F.answers w.tape) (hb : Below B w w') : F.answers w'.tape := by rw [hb.tape]; exact h

set_option maxRecDepth 10000 in
set_option maxHeartbeats 2000000 in
theorem neg_pos (F : Interp) (a : Int) (w : World) (hF : F.told.answers w.tape) (h0 : 0 < a) (h1 : a ≤ 315537897600000000) :
    Calls Tryf.prog 4 #[.int .i64 a] w fun e w' => e = .returned (.bool true) ∧ Below w.heap.size w w' := by
  obtain ⟨d, hd⟩ := Int.eq_ofNat_of_zero_le (parts a (by omega) h1).1.1
  have hd2 := (parts a (by omega) h1).1.2
  have C1 := fun w (hF : F.told.answers w.tape) => zzs_nonneg F a w hF (by omega) h1
  have C2 := fun w (hF : F.told.answers w.tape) => zzs_neg F a w hF h0 h1
  have C3 := fun w => before_span a d w (by omega) h1 hd
  have C4 := fun w => zzextract3 a w (by omega) h1
  have C5 := fun w => uitoa_any d w (by omega)
  have hS : (⟨(span [] a).toArray⟩ : ByteArray).size ≤ 200 := by have := span_size a (by omega) h1; simpa [ByteArray.size] using this
  generalize (⟨(span [] a).toArray⟩ : ByteArray) = S at *
  generalize (⟨(Lib.decDigits d).toArray⟩ : ByteArray) = T at *
  rw [hd] at C4
  have D1 := hid C1
  have D2 := hid C2
  have D3 := hid C3
  have D4 := hid C4
  have D5 := hid C5
  have HF := hid hF
  have hd3 : (d : Int) ≤ 315537897600000000 := by omega
  have e1 : (a == 0) = false := by rw [beq_eq_false_iff_ne]; omega
  have b1 : -315537897600000000 ≤ a := by omega
  clear C1 C2 C3 C4 C5 hF hd2
  go_enter Tryf.func4, Tryf.ntmps4
  go_wp2_with fail
  refine (D1.out _ HF.out).mono ?_
  rintro e w1 ⟨rfl, hb1⟩
  have HB1 := hid hb1
  have HF1 := hid (answers_below HF.out hb1)
  clear hb1
  go_wp2_with fail
  refine (D2.out _ HF1.out).mono ?_
  rintro e w2 ⟨rfl, hb2⟩
  have HB2 := hid (below_chain HB1.out hb2)
  clear hb2 HB1
  go_wp2_with fail
  refine (D3.out _).mono ?_
  rintro e w3 ⟨rfl, hw3⟩
  obtain rfl : w2 = w3 := hw3.symm
  clear hw3
  go_wp2_with fail
  refine (D4.out _).mono ?_
  rintro e w4 ⟨rfl, hb4⟩
  have HB4 := hid (below_chain HB2.out hb4)
  clear hb4 HB2
  go_wp2_with fail
  refine (D5.out _).mono ?_
  rintro e w5 ⟨rfl, hb5⟩
  have HB5 := hid (below_chain HB4.out hb5)
  clear hb5 HB4
  go_wp2_with fail
  go_ret
  exact ⟨rfl, HB5.out⟩
set_option maxRecDepth 10000 in
set_option maxHeartbeats 2000000 in
theorem neg_neg (F : Interp) (a : Int) (w : World) (hF : F.told.answers w.tape) (h0 : 0 < a) (h1 : a ≤ 315537897600000000) :
    Calls Tryf.prog 4 #[.int .i64 (-a)] w fun e w' => e = .returned (.bool true) ∧ Below w.heap.size w w' := by
  obtain ⟨d, hd⟩ := Int.eq_ofNat_of_zero_le (parts a (by omega) h1).1.1
  have hd2 := (parts a (by omega) h1).1.2
  have C1 := fun w (hF : F.told.answers w.tape) => zzs_nonneg F a w hF (by omega) h1
  have C2 := fun w (hF : F.told.answers w.tape) => zzs_neg F a w hF h0 h1
  have C3 := fun w => before_span a d w (by omega) h1 hd
  have C4 := fun w => zzextract3 a w (by omega) h1
  have C5 := fun w => uitoa_any d w (by omega)
  have hS : (⟨(span [] a).toArray⟩ : ByteArray).size ≤ 200 := by have := span_size a (by omega) h1; simpa [ByteArray.size] using this
  generalize (⟨(span [] a).toArray⟩ : ByteArray) = S at *
  generalize (⟨(Lib.decDigits d).toArray⟩ : ByteArray) = T at *
  rw [hd] at C4
  have D1 := hid C1
  have D2 := hid C2
  have D3 := hid C3
  have D4 := hid C4
  have D5 := hid C5
  have HF := hid hF
  have hd3 : (d : Int) ≤ 315537897600000000 := by omega
  have e2 : -a < 0 := by omega
  have b1 : -315537897600000000 ≤ a := by omega
  clear C1 C2 C3 C4 C5 hF hd2
  go_enter Tryf.func4, Tryf.ntmps4
  go_wp2_with fail
  refine (D2.out _ HF.out).mono ?_
  rintro e w1 ⟨rfl, hb1⟩
  have HB1 := hid hb1
  have HF1 := hid (answers_below HF.out hb1)
  clear hb1
  go_wp2_with fail
  refine (D1.out _ HF1.out).mono ?_
  rintro e w2 ⟨rfl, hb2⟩
  have HB2 := hid (below_chain HB1.out hb2)
  clear hb2 HB1
  go_wp2_with fail
  refine (D3.out _).mono ?_
  rintro e w3 ⟨rfl, hw3⟩
  obtain rfl : w2 = w3 := hw3.symm
  clear hw3
  go_wp2_with fail
  refine (D4.out _).mono ?_
  rintro e w4 ⟨rfl, hb4⟩
  have HB4 := hid (below_chain HB2.out hb4)
  clear hb4 HB2
  go_wp2_with fail
  refine (D5.out _).mono ?_
  rintro e w5 ⟨rfl, hb5⟩
  have HB5 := hid (below_chain HB4.out hb5)
  clear hb5 HB4
  go_wp2_with fail
  go_ret
  exact ⟨rfl, HB5.out⟩
set_option maxRecDepth 10000 in
set_option maxHeartbeats 2000000 in
theorem neg_zero (F : Interp) (w : World) (hF : F.told.answers w.tape) :
    Calls Tryf.prog 4 #[.int .i64 0] w fun e w' => e = .returned (.bool true) ∧ Below w.heap.size w w' := by
  obtain ⟨d, hd⟩ := Int.eq_ofNat_of_zero_le (parts 0 (by omega) (by omega)).1.1
  have hd2 := (parts 0 (by omega) (by omega)).1.2
  have C1 := fun w (hF : F.told.answers w.tape) => zzs_nonneg F 0 w hF (by omega) (by omega)
  have C3 := fun w => before_span 0 d w (by omega) (by omega) hd
  have C4 := fun w => zzextract3 0 w (by omega) (by omega)
  have C5 := fun w => uitoa_any d w (by omega)
  have hS : (⟨(span [] 0).toArray⟩ : ByteArray).size ≤ 200 := by have := span_size 0 (by omega) (by omega); simpa [ByteArray.size] using this
  generalize (⟨(span [] 0).toArray⟩ : ByteArray) = S at *
  generalize (⟨(Lib.decDigits d).toArray⟩ : ByteArray) = T at *
  rw [hd] at C4
  have D1 := hid C1
  have D3 := hid C3
  have D4 := hid C4
  have D5 := hid C5
  have HF := hid hF
  have hd3 : (d : Int) ≤ 315537897600000000 := by omega
  clear C1 C3 C4 C5 hF hd2
  go_enter Tryf.func4, Tryf.ntmps4
  go_wp2_with fail
  refine (D1.out _ HF.out).mono ?_
  rintro e w1 ⟨rfl, hb1⟩
  have HB1 := hid hb1
  have HF1 := hid (answers_below HF.out hb1)
  clear hb1
  go_wp2_with fail
  refine (D1.out _ HF1.out).mono ?_
  rintro e w2 ⟨rfl, hb2⟩
  have HB2 := hid (below_chain HB1.out hb2)
  clear hb2 HB1
  go_wp2_with fail
  refine (D3.out _).mono ?_
  rintro e w3 ⟨rfl, hw3⟩
  obtain rfl : w2 = w3 := hw3.symm
  clear hw3
  go_wp2_with fail
  refine (D4.out _).mono ?_
  rintro e w4 ⟨rfl, hb4⟩
  have HB4 := hid (below_chain HB2.out hb4)
  clear hb4 HB2
  go_wp2_with fail
  refine (D5.out _).mono ?_
  rintro e w5 ⟨rfl, hb5⟩
  have HB5 := hid (below_chain HB4.out hb5)
  clear hb5 HB4
  go_wp2_with fail
  go_ret
  exact ⟨rfl, HB5.out⟩

theorem law_out (a : Int) (w : World) (h : a < -315537897600000000 ∨ 315537897600000000 < a) :
    Calls Tryf.prog 4 #[.int .i64 a] w fun e w' => e = .returned (.bool true) ∧ Below w.heap.size w w' := by
  have h5 : decide (a < -315537897600000000) = true ∨ (decide (a < -315537897600000000) = false ∧ decide (315537897600000000 < a) = true) := by
    by_cases h : a < -315537897600000000
    · exact .inl (by simpa using h)
    · exact .inr ⟨by simpa using h, by simp; omega⟩
  clear h
  rcases h5 with h3 | ⟨h3, h4⟩
  all_goals
    go_enter Tryf.func4, Tryf.ntmps4
    go_wp2_with fail
    go_ret
    exact ⟨rfl, Below.refl _ _⟩

theorem neg_all (F : Interp) (a : Int) (w : World) (hF : F.told.answers w.tape) :
    Calls Tryf.prog 4 #[.int .i64 a] w fun e w' => e = .returned (.bool true) ∧ Below w.heap.size w w' := by
  by_cases h : a < -315537897600000000 ∨ 315537897600000000 < a
  · exact law_out a w h
  by_cases h0 : a = 0
  · subst h0; exact neg_zero F w hF
  by_cases h1 : 0 < a
  · exact neg_pos F a w hF h1 (by omega)
  · have := neg_neg F (-a) w hF (by omega) (by omega)
    rw [Int.neg_neg] at this
    exact this
end Go.Proofs.Qxb6608910aFmt
