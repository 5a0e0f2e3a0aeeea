/- FnDayToSecondStringAgreesWithTime, at this seat's dump, fmt's text told. -/
import Derived.Test.Qxb6608910aFmtB
import Derived.Test.Qxb6608910aFmtLd
namespace Go.Proofs.Qxb6608910aFmt
open Go.Extern.Stop Go.Stop Go.Extern Go.RowKit Go.Kit
set_option linter.unusedVariables false

/-- The numbers on the law's road, by name. -/
structure Nums (a : Int) (d f : Nat) (r q h m s : Int) : Prop where
  x1 : a / 86400000000 = (d : Int)
  x2 : a % 86400000000 = r
  x3 : r / 1000000 = q
  x4 : r % 1000000 = (f : Int)
  x5 : q / 3600 = h
  x6 : q / 60 % 60 = m
  x7 : q % 60 = s
  b1 : 0 ≤ r ∧ r < 86400000000
  b2 : 0 ≤ q ∧ q < 86400
  b3 : f < 1000000
  b4 : (d : Int) ≤ 315537897600000000
  bh : 0 ≤ h ∧ h ≤ 23
  bm : 0 ≤ m ∧ m ≤ 59
  bs : 0 ≤ s ∧ s ≤ 59
  eh : (a.tdiv 3600000000).tmod 24 = h
  em : (a.tdiv 60000000).tmod 60 = m
  es : (a.tdiv 1000000).tmod 60 = s
  eu : a.tmod 1000000 = (f : Int)
  ed : a.tdiv 86400000000 = (d : Int)

theorem nums (a : Int) (h0 : 0 ≤ a) (h1 : a ≤ 315537897600000000) : ∃ d f r q h m s, Nums a d f r q h m s := by
  obtain ⟨d, hd⟩ := Int.eq_ofNat_of_zero_le (show 0 ≤ a / 86400000000 by omega)
  obtain ⟨f, hf⟩ := Int.eq_ofNat_of_zero_le (show 0 ≤ (a % 86400000000) % 1000000 by omega)
  have e1 : a.tdiv 86400000000 = a / 86400000000 := Int.tdiv_eq_ediv_of_nonneg h0
  have e2 : a.tdiv 3600000000 = a / 3600000000 := Int.tdiv_eq_ediv_of_nonneg h0
  have e3 : a.tdiv 60000000 = a / 60000000 := Int.tdiv_eq_ediv_of_nonneg h0
  have e4 : a.tdiv 1000000 = a / 1000000 := Int.tdiv_eq_ediv_of_nonneg h0
  have e5 : a.tmod 1000000 = a % 1000000 := Int.tmod_eq_emod_of_nonneg h0
  have e6 : (a / 3600000000).tmod 24 = (a / 3600000000) % 24 := Int.tmod_eq_emod_of_nonneg (by omega)
  have e7 : (a / 60000000).tmod 60 = (a / 60000000) % 60 := Int.tmod_eq_emod_of_nonneg (by omega)
  have e8 : (a / 1000000).tmod 60 = (a / 1000000) % 60 := Int.tmod_eq_emod_of_nonneg (by omega)
  refine ⟨d, f, a % 86400000000, a % 86400000000 / 1000000, a % 86400000000 / 1000000 / 3600, a % 86400000000 / 1000000 / 60 % 60, a % 86400000000 / 1000000 % 60, ?_⟩
  refine { x1 := hd, x2 := rfl, x3 := rfl, x4 := hf, x5 := rfl, x6 := rfl, x7 := rfl, b1 := by omega, b2 := by omega, b3 := by omega, b4 := by omega, bh := by omega, bm := by omega, bs := by omega, eh := ?_, em := ?_, es := ?_, eu := ?_, ed := by rw [e1, hd] }
  · rw [e2, e6]; omega
  · rw [e3, e7]; omega
  · rw [e4, e8]; omega
  · rw [e5]; omega

/-- String's text is the sum of the law's pieces. -/
theorem span_sum (sg : List UInt8) {a : Int} {d f : Nat} {r q h m s : Int} (N : Nums a d f r q h m s) :
    (⟨(span sg a).toArray⟩ : ByteArray) = (((((⟨sg.toArray⟩ : ByteArray) ++ ⟨(Lib.decDigits d).toArray⟩) ++ ⟨#[32]⟩) ++ ⟨(txtB h m s).toArray⟩) ++ ⟨#[46]⟩) ++ ⟨(FmtText.zeros 6 f).toArray⟩ := by
  have e32 : (⟨#[32]⟩ : ByteArray) = ⟨([32] : List UInt8).toArray⟩ := rfl
  have e46 : (⟨#[46]⟩ : ByteArray) = ⟨([46] : List UInt8).toArray⟩ := rfl
  rw [e32, e46, ba_append, ba_append, ba_append, ba_append, ba_append]
  congr 2
  have hit : Lib.itoa (a.tdiv 86400000000) = Lib.decDigits d := by
    rw [N.ed, Lib.itoa, if_neg (by omega)]; simp
  unfold span txtA txtB
  rw [hit, N.eh, N.em, N.es, N.eu]
  simp

theorem pad6 (f : Nat) (w : World) (hf : f < 1000000) :
    Calls Tryf.prog 10 #[.string ⟨(Lib.decDigits f).toArray⟩, .int .i64 6] w fun e w' => e = .returned (.string ⟨(FmtText.zeros 6 f).toArray⟩) ∧ w' = w := by
  have hl : (Lib.decDigits f).length ≤ 20 := by rw [Lib.decDigits_length]; exact Lib.nDigits_le20 f (by omega)
  have := pad_any (Lib.decDigits f) w hl
  have e : List.replicate (6 - (Lib.decDigits f).length) 48 ++ Lib.decDigits f = FmtText.zeros 6 (f : Int) := by
    rw [FmtText.zeros, if_neg (by omega)]; simp
  rw [e] at this
  exact this

theorem keepS {wq w1 w2 : World} {B : Nat} {v : Value} (h : w1.cell? ⟨B, 0, none⟩ = some v ∧ Below wq.heap.size wq w1) (hb : Below w1.heap.size w1 w2) : w2.cell? ⟨B, 0, none⟩ = some v ∧ Below wq.heap.size wq w2 :=
  ⟨(hb.cell (p := ⟨B, 0, none⟩) (block_lt_of_cell h.1)).trans h.1, below_chain h.2 hb⟩

set_option maxRecDepth 10000 in
set_option maxHeartbeats 4000000 in
theorem agree_pos (F : Interp) (a : Int) (w : World) (hF : F.told.answers w.tape) (h0 : 0 ≤ a) (h1 : a ≤ 315537897600000000) :
    Calls Tryf.prog 3 #[.int .i64 a] w fun e w' => e = .returned (.bool true) ∧ Below w.heap.size w w' := by
  obtain ⟨d, f, r, q, h, m, s, N⟩ := nums a h0 h1
  have C11 := fun w (hF : F.told.answers w.tape) => zzs_nonneg F a w hF h0 h1
  rw [span_sum [] N] at C11
  have C8d := fun w => uitoa_any d w (by have := N.b4; omega)
  have C8f := fun w => uitoa_any f w (by have := N.b3; omega)
  have C10 := fun w => pad6 f w N.b3
  have C9 := fun w (hF : F.told.answers w.tape) => time_str F (h * 3600 + m * 60 + s) h m s w hF rfl N.bh N.bm N.bs
  have C7 := fun w => newtime_any h m s w N.bh N.bm N.bs
  obtain ⟨x1, x2, x3, x4, x5, x6, x7, b1, b2, b3, b4, bh, bm, bs, eh, em, es, eu, ed⟩ := N
  have z1 : (⟨(Lib.decDigits d).toArray⟩ : ByteArray).size ≤ 20 := by have := Lib.nDigits_le20 d (by omega); rw [← Lib.decDigits_length] at this; simpa [ByteArray.size] using this
  have z2 : (⟨(txtB h m s).toArray⟩ : ByteArray).size ≤ 100 := by
    have l2 := FmtText.zeros_length_le' 2 (wf64 (n := h) (by omega))
    have l3 := FmtText.zeros_length_le' 2 (wf64 (n := m) (by omega))
    have l4 := FmtText.zeros_length_le' 2 (wf64 (n := s) (by omega))
    have : (txtB h m s).length ≤ 100 := by simp only [txtB, List.length_append, List.length_cons]; omega
    simpa [ByteArray.size] using this
  have z3 : (⟨(FmtText.zeros 6 f).toArray⟩ : ByteArray).size ≤ 100 := by
    have := FmtText.zeros_length_le' 6 (wf64 (n := (f : Int)) (by omega))
    have : (FmtText.zeros 6 (f : Int)).length ≤ 100 := by omega
    simpa [ByteArray.size] using this
  have t0 : 0 ≤ h * 3600 + m * 60 + s ∧ h * 3600 + m * 60 + s ≤ 86400 := by omega
  generalize h * 3600 + m * 60 + s = t at *
  generalize (⟨(Lib.decDigits d).toArray⟩ : ByteArray) = DD at *
  generalize (⟨(Lib.decDigits f).toArray⟩ : ByteArray) = FF at *
  generalize (⟨(txtB h m s).toArray⟩ : ByteArray) = CC at *
  generalize (⟨(FmtText.zeros 6 f).toArray⟩ : ByteArray) = PP at *
  have K11 := hid C11
  have K8d := hid C8d
  have K8f := hid C8f
  have K10 := hid C10
  have K9 := hid C9
  have K7 := hid C7
  have HF := hid hF
  have n1 : ¬ a < 0 := by omega
  have m1 : -315537897600000000 ≤ a := by omega
  clear C11 C8d C8f C10 C9 C7 hF eh em es eu ed
  go_enter Tryf.func3, Tryf.ntmps3
  go_wp2_with fail
  refine (K7.out _).mono ?_
  rintro e w1 ⟨rfl, hb1⟩
  have HB1 := hid hb1
  have HF1 := hid (answers_below HF.out hb1)
  have HS1 := hid hb1.size
  clear hb1
  go_wp2_with fail
  generalize hwq : w1.alloc (Obj.cells #[Value.int IntKind.i32 t] 23) = wq
  have c0 : wq.cell? ⟨w1.heap.size, 0, none⟩ = some (.int .i32 t) := by rw [← hwq]; simp [go_sem]
  have HBQ : Hid (Below w.heap.size w wq) := by rw [← hwq]; exact HB1.out.alloc HS1.out _
  have HFQ : Hid (F.told.answers wq.tape) := by rw [← hwq]; exact HF1.out
  have K9' := hid (fun w' (hS : w'.cell? ⟨w1.heap.size, 0, none⟩ = some (.int .i32 t) ∧ Below wq.heap.size wq w') => K9.out w' (answers_below HFQ.out hS.2))
  have WD := hid (show IntKind.u64.wrap (d : Int) = d by rw [IntKind.wrap_u64]; omega)
  have WF := hid (show IntKind.u64.wrap (f : Int) = f by rw [IntKind.wrap_u64]; omega)
  have s1 : ¬ 9223372036854775807 < DD.size := by omega
  have s2 : ¬ 9223372036854775807 < DD.size + 1 := by omega
  have s3 : ¬ 9223372036854775807 < DD.size + 1 + CC.size := by omega
  have s4 : ¬ 9223372036854775807 < DD.size + 1 + CC.size + 1 := by omega
  have s5 : ¬ 9223372036854775807 < DD.size + 1 + CC.size + 1 + PP.size := by omega
  clear z1 z2 z3
  clear hwq x1 x2 x3 x4 x5 x6 x7
  go_region_held3 (fun w' => w'.cell? ⟨w1.heap.size, 0, none⟩ = some (.int .i32 t) ∧ Below wq.heap.size wq w')
    (first | exact keepS (by assumption) hb | exact ⟨c0, (Below.refl _ _).drew⟩ | assumption)
    (first
      | (go_at_call_of 8 d; try rw [WD.out]; refine (K8d.out _).mono ?_; rintro e w' ⟨rfl, hb⟩)
      | (go_at_call_of 8 f; try rw [WF.out]; refine (K8f.out _).mono ?_;  rintro e w' ⟨rfl, hb⟩)
      | (go_at_call 9; refine (K9'.out _ (by assumption)).mono ?_; rintro e w' ⟨rfl, hb⟩)
      | (go_at_call 10; refine (K10.out _).mono ?_; rintro e w' ⟨rfl, rfl⟩))
  have HS : Hid (w'.cell? ⟨w1.heap.size, 0, none⟩ = some (.int .i32 t) ∧ Below wq.heap.size wq w') := by assumption
  have HF7 := hid (answers_below HFQ.out HS.out.2)
  have HB7 := hid (below_chain HBQ.out HS.out.2)
  clear hb c0 s1 s2 s3 s4 s5
  go_wp2_with fail
  refine (K11.out _ HF7.out).mono ?_
  rintro e w8 ⟨rfl, hb8⟩
  have HB8 := hid (below_chain HB7.out hb8)
  clear hb8
  go_wp2_with fail
  go_ret
  exact ⟨rfl, HB8.out⟩
theorem zzs_neg45 (F : Interp) (a : Int) (w : World) (hF : F.told.answers w.tape) (h0 : 0 < a) (h1 : a ≤ 315537897600000000) :
    Calls Tryf.prog 11 #[.int .i64 (-a)] w fun e w' => e = .returned (.string ⟨(span [45] a).toArray⟩) ∧ Below w.heap.size w w' := by
  have := zzs_neg F a w hF h0 h1
  rw [show (⟨#[45]⟩ : ByteArray) ++ ⟨(span [] a).toArray⟩ = ⟨(span [45] a).toArray⟩ from ba_append [45] (span [] a)] at this
  exact this

set_option maxRecDepth 10000 in
set_option maxHeartbeats 4000000 in
theorem agree_neg (F : Interp) (a : Int) (w : World) (hF : F.told.answers w.tape) (h0' : 0 < a) (h1 : a ≤ 315537897600000000) :
    Calls Tryf.prog 3 #[.int .i64 (-a)] w fun e w' => e = .returned (.bool true) ∧ Below w.heap.size w w' := by
  have h0 : 0 ≤ a := by omega
  obtain ⟨d, f, r, q, h, m, s, N⟩ := nums a h0 h1
  have C11 := fun w (hF : F.told.answers w.tape) => zzs_neg45 F a w hF h0' h1
  rw [span_sum [45] N] at C11
  have C8d := fun w => uitoa_any d w (by have := N.b4; omega)
  have C8f := fun w => uitoa_any f w (by have := N.b3; omega)
  have C10 := fun w => pad6 f w N.b3
  have C9 := fun w (hF : F.told.answers w.tape) => time_str F (h * 3600 + m * 60 + s) h m s w hF rfl N.bh N.bm N.bs
  have C7 := fun w => newtime_any h m s w N.bh N.bm N.bs
  obtain ⟨x1, x2, x3, x4, x5, x6, x7, b1, b2, b3, b4, bh, bm, bs, eh, em, es, eu, ed⟩ := N
  have z1 : (⟨(Lib.decDigits d).toArray⟩ : ByteArray).size ≤ 20 := by have := Lib.nDigits_le20 d (by omega); rw [← Lib.decDigits_length] at this; simpa [ByteArray.size] using this
  have z2 : (⟨(txtB h m s).toArray⟩ : ByteArray).size ≤ 100 := by
    have l2 := FmtText.zeros_length_le' 2 (wf64 (n := h) (by omega))
    have l3 := FmtText.zeros_length_le' 2 (wf64 (n := m) (by omega))
    have l4 := FmtText.zeros_length_le' 2 (wf64 (n := s) (by omega))
    have : (txtB h m s).length ≤ 100 := by simp only [txtB, List.length_append, List.length_cons]; omega
    simpa [ByteArray.size] using this
  have z3 : (⟨(FmtText.zeros 6 f).toArray⟩ : ByteArray).size ≤ 100 := by
    have := FmtText.zeros_length_le' 6 (wf64 (n := (f : Int)) (by omega))
    have : (FmtText.zeros 6 (f : Int)).length ≤ 100 := by omega
    simpa [ByteArray.size] using this
  have t0 : 0 ≤ h * 3600 + m * 60 + s ∧ h * 3600 + m * 60 + s ≤ 86400 := by omega
  generalize h * 3600 + m * 60 + s = t at *
  generalize (⟨(Lib.decDigits d).toArray⟩ : ByteArray) = DD at *
  generalize (⟨(Lib.decDigits f).toArray⟩ : ByteArray) = FF at *
  generalize (⟨(txtB h m s).toArray⟩ : ByteArray) = CC at *
  generalize (⟨(FmtText.zeros 6 f).toArray⟩ : ByteArray) = PP at *
  have K11 := hid C11
  have K8d := hid C8d
  have K8f := hid C8f
  have K10 := hid C10
  have K9 := hid C9
  have K7 := hid C7
  have HF := hid hF
  have n1 : -a < 0 := by omega
  have m1 : -315537897600000000 ≤ -a := by omega
  have m2 : -a ≤ 315537897600000000 := by omega
  clear C11 C8d C8f C10 C9 C7 hF eh em es eu ed
  go_enter Tryf.func3, Tryf.ntmps3
  go_wp2_with fail
  refine (K7.out _).mono ?_
  rintro e w1 ⟨rfl, hb1⟩
  have HB1 := hid hb1
  have HF1 := hid (answers_below HF.out hb1)
  have HS1 := hid hb1.size
  clear hb1
  go_wp2_with fail
  generalize hwq : w1.alloc (Obj.cells #[Value.int IntKind.i32 t] 23) = wq
  have c0 : wq.cell? ⟨w1.heap.size, 0, none⟩ = some (.int .i32 t) := by rw [← hwq]; simp [go_sem]
  have HBQ : Hid (Below w.heap.size w wq) := by rw [← hwq]; exact HB1.out.alloc HS1.out _
  have HFQ : Hid (F.told.answers wq.tape) := by rw [← hwq]; exact HF1.out
  have K9' := hid (fun w' (hS : w'.cell? ⟨w1.heap.size, 0, none⟩ = some (.int .i32 t) ∧ Below wq.heap.size wq w') => K9.out w' (answers_below HFQ.out hS.2))
  have WD := hid (show IntKind.u64.wrap (d : Int) = d by rw [IntKind.wrap_u64]; omega)
  have WF := hid (show IntKind.u64.wrap (f : Int) = f by rw [IntKind.wrap_u64]; omega)
  have s1 : ¬ 9223372036854775807 < 1 + DD.size := by omega
  have s2 : ¬ 9223372036854775807 < 1 + DD.size + 1 := by omega
  have s3 : ¬ 9223372036854775807 < 1 + DD.size + 1 + CC.size := by omega
  have s4 : ¬ 9223372036854775807 < 1 + DD.size + 1 + CC.size + 1 := by omega
  have s5 : ¬ 9223372036854775807 < 1 + DD.size + 1 + CC.size + 1 + PP.size := by omega
  clear z1 z2 z3
  clear hwq x1 x2 x3 x4 x5 x6 x7
  go_region_held3 (fun w' => w'.cell? ⟨w1.heap.size, 0, none⟩ = some (.int .i32 t) ∧ Below wq.heap.size wq w')
    (first | exact keepS (by assumption) hb | exact ⟨c0, (Below.refl _ _).drew⟩ | assumption)
    (first
      | (go_at_call_of 8 d; try rw [WD.out]; refine (K8d.out _).mono ?_; rintro e w' ⟨rfl, hb⟩)
      | (go_at_call_of 8 f; try rw [WF.out]; refine (K8f.out _).mono ?_;  rintro e w' ⟨rfl, hb⟩)
      | (go_at_call 9; refine (K9'.out _ (by assumption)).mono ?_; rintro e w' ⟨rfl, hb⟩)
      | (go_at_call 10; refine (K10.out _).mono ?_; rintro e w' ⟨rfl, rfl⟩))
  have HS : Hid (w'.cell? ⟨w1.heap.size, 0, none⟩ = some (.int .i32 t) ∧ Below wq.heap.size wq w') := by assumption
  have HF7 := hid (answers_below HFQ.out HS.out.2)
  have HB7 := hid (below_chain HBQ.out HS.out.2)
  clear hb c0 s1 s2 s3 s4 s5
  go_wp2_with fail
  refine (K11.out _ HF7.out).mono ?_
  rintro e w8 ⟨rfl, hb8⟩
  have HB8 := hid (below_chain HB7.out hb8)
  clear hb8
  go_wp2_with fail
  go_ret
  exact ⟨rfl, HB8.out⟩

theorem agree_out (a : Int) (w : World) (h : a < -315537897600000000 ∨ 315537897600000000 < a) :
    Calls Tryf.prog 3 #[.int .i64 a] w fun e w' => e = .returned (.bool true) ∧ Below w.heap.size w w' := by
  have h5 : decide (a < -315537897600000000) = true ∨ (decide (a < -315537897600000000) = false ∧ decide (315537897600000000 < a) = true) := by
    by_cases h : a < -315537897600000000
    · exact .inl (by simpa using h)
    · exact .inr ⟨by simpa using h, by simp; omega⟩
  clear h
  rcases h5 with h3 | ⟨h3, h4⟩
  all_goals
    go_enter Tryf.func3, Tryf.ntmps3
    go_wp2_with fail
    go_ret
    exact ⟨rfl, Below.refl _ _⟩

theorem agree_all (F : Interp) (a : Int) (w : World) (hF : F.told.answers w.tape) :
    Calls Tryf.prog 3 #[.int .i64 a] w fun e w' => e = .returned (.bool true) ∧ Below w.heap.size w w' := by
  by_cases h : a < -315537897600000000 ∨ 315537897600000000 < a
  · exact agree_out a w h
  by_cases h1 : 0 ≤ a
  · exact agree_pos F a w hF h1 (by omega)
  · have := agree_neg F (-a) w hF (by omega) (by omega)
    rw [Int.neg_neg] at this
    exact this
end Go.Proofs.Qxb6608910aFmt
