/- DayToSecond.String, its text told; beforeSpace at it. -/
import Derived.Test.Qxb6608910aFmtT
import Derived.Test.Qxb6608910aFmtE
import Derived.WalkArith
namespace Go.Proofs.Qxb6608910aFmt
open Go.Extern.Stop Go.Stop Go.Extern Go.RowKit Go.Kit
set_option linter.unusedVariables false

/-- The text of a span that is not negative, sgn ahead. -/
def span (sgn : List UInt8) (a : Int) : List UInt8 := txtA sgn (a.tdiv 86400000000) ((a.tdiv 3600000000).tmod 24) ((a.tdiv 60000000).tmod 60) ((a.tdiv 1000000).tmod 60) (a.tmod 1000000)

theorem parts (a : Int) (h0 : 0 ≤ a) (h1 : a ≤ 315537897600000000) :
    (0 ≤ a.tdiv 86400000000 ∧ a.tdiv 86400000000 ≤ 315537897600000000) ∧ (0 ≤ (a.tdiv 3600000000).tmod 24 ∧ (a.tdiv 3600000000).tmod 24 ≤ 23) ∧ (0 ≤ (a.tdiv 60000000).tmod 60 ∧ (a.tdiv 60000000).tmod 60 ≤ 59) ∧ (0 ≤ (a.tdiv 1000000).tmod 60 ∧ (a.tdiv 1000000).tmod 60 ≤ 59) ∧ (0 ≤ a.tmod 1000000 ∧ a.tmod 1000000 ≤ 999999) := by
  have e1 : a.tdiv 86400000000 = a / 86400000000 := Int.tdiv_eq_ediv_of_nonneg h0
  have e2 : a.tdiv 3600000000 = a / 3600000000 := Int.tdiv_eq_ediv_of_nonneg h0
  have e3 : a.tdiv 60000000 = a / 60000000 := Int.tdiv_eq_ediv_of_nonneg h0
  have e4 : a.tdiv 1000000 = a / 1000000 := Int.tdiv_eq_ediv_of_nonneg h0
  have e5 : a.tmod 1000000 = a % 1000000 := Int.tmod_eq_emod_of_nonneg h0
  have e6 : (a / 3600000000).tmod 24 = (a / 3600000000) % 24 := Int.tmod_eq_emod_of_nonneg (by omega)
  have e7 : (a / 60000000).tmod 60 = (a / 60000000) % 60 := Int.tmod_eq_emod_of_nonneg (by omega)
  have e8 : (a / 1000000).tmod 60 = (a / 1000000) % 60 := Int.tmod_eq_emod_of_nonneg (by omega)
  rw [e1, e2, e3, e4, e5, e6, e7, e8]
  omega

theorem wf64 {n : Int} (h : -9223372036854775808 ≤ n ∧ n ≤ 9223372036854775807) : (Lit.int .i64 n).wf = true := by
  simp [Lit.wf, IntKind.min, IntKind.max, IntKind.signed, IntKind.bits]
  omega
theorem ba_of_list {x : ByteArray} {l : List UInt8} (h : x.data.toList = l) : x = ⟨l.toArray⟩ := by
  subst h
  apply ByteArray.ext
  simp

theorem span_told (F : Interp) (sgn : ByteArray) (hs : sgn.data.toList.length ≤ 1) (a : Int) (h0 : 0 ≤ a) (h1 : a ≤ 315537897600000000) :
    FmtStop.textOf (F.told (FmtCalls.frontName 0) (readA sgn (a.tdiv 86400000000) ((a.tdiv 3600000000).tmod 24) ((a.tdiv 60000000).tmod 60) ((a.tdiv 1000000).tmod 60) (a.tmod 1000000)) 0) = ⟨(span sgn.data.toList a).toArray⟩ := by
  obtain ⟨p1, p2, p3, p4, p5⟩ := parts a h0 h1
  have w1 := wf64 (n := a.tdiv 86400000000) (by omega)
  have w2 := wf64 (n := (a.tdiv 3600000000).tmod 24) (by omega)
  have w3 := wf64 (n := (a.tdiv 60000000).tmod 60) (by omega)
  have w4 := wf64 (n := (a.tdiv 1000000).tmod 60) (by omega)
  have w5 := wf64 (n := a.tmod 1000000) (by omega)
  apply ba_of_list
  rw [textOf_list]
  refine told_string F (textA sgn hs _ _ _ _ _ w1 w2 w3 w4 w5) ?_
  have l1 := FmtText.itoa_length_le w1
  have l2 := FmtText.zeros_length_le' 2 w2
  have l3 := FmtText.zeros_length_le' 2 w3
  have l4 := FmtText.zeros_length_le' 2 w4
  have l5 := FmtText.zeros_length_le' 6 w5
  simp only [span, txtA, List.length_append, List.length_cons]
  omega

theorem span_size (a : Int) (h0 : 0 ≤ a) (h1 : a ≤ 315537897600000000) : (span [] a).length ≤ 200 := by
  obtain ⟨p1, p2, p3, p4, p5⟩ := parts a h0 h1
  have l1 := FmtText.itoa_length_le (wf64 (n := a.tdiv 86400000000) (by omega))
  have l2 := FmtText.zeros_length_le' 2 (wf64 (n := (a.tdiv 3600000000).tmod 24) (by omega))
  have l3 := FmtText.zeros_length_le' 2 (wf64 (n := (a.tdiv 60000000).tmod 60) (by omega))
  have l4 := FmtText.zeros_length_le' 2 (wf64 (n := (a.tdiv 1000000).tmod 60) (by omega))
  have l5 := FmtText.zeros_length_le' 6 (wf64 (n := a.tmod 1000000) (by omega))
  simp only [span, txtA, List.length_append, List.length_cons, List.length_nil]
  omega

theorem zzs_nonneg (F : Interp) (a : Int) (w : World) (hF : F.told.answers w.tape) (h0 : 0 ≤ a) (h1 : a ≤ 315537897600000000) :
    Calls Tryf.prog 11 #[.int .i64 a] w fun e w' => e = .returned (.string ⟨(span [] a).toArray⟩) ∧ Below w.heap.size w w' := by
  have CT := str_nonneg F.told a w hF h0 h1
  rw [span_told F ⟨#[]⟩ (by simp) a h0 h1] at CT
  have HC := hid CT
  clear CT hF
  go_enter Tryf.func11, Tryf.ntmps11
  go_wp2_with fail
  refine HC.out.mono ?_
  rintro e w1 ⟨rfl, hb⟩
  have HB := hid hb
  clear hb
  go_wp2_with fail
  go_ret
  exact ⟨rfl, HB.out⟩

theorem zzs_neg (F : Interp) (a : Int) (w : World) (hF : F.told.answers w.tape) (h0 : 0 < a) (h1 : a ≤ 315537897600000000) :
    Calls Tryf.prog 11 #[.int .i64 (-a)] w fun e w' => e = .returned (.string (⟨#[45]⟩ ++ ⟨(span [] a).toArray⟩)) ∧ Below w.heap.size w w' := by
  have CT := str_neg F.told a w hF h0 h1
  rw [span_told F ⟨#[45]⟩ (by simp) a (by omega) h1, show (⟨(span (⟨#[45]⟩ : ByteArray).data.toList a).toArray⟩ : ByteArray) = ⟨#[45]⟩ ++ ⟨(span [] a).toArray⟩ from (ba_append [45] (span [] a)).symm] at CT
  generalize (⟨#[45]⟩ : ByteArray) ++ ⟨(span [] a).toArray⟩ = S at *
  have HC := hid CT
  clear CT hF
  go_enter Tryf.func11, Tryf.ntmps11
  go_wp2_with fail
  refine HC.out.mono ?_
  rintro e w1 ⟨rfl, hb⟩
  have HB := hid hb
  clear hb
  go_wp2_with fail
  go_ret
  exact ⟨rfl, HB.out⟩

/-! ### beforeSpace at it -/
theorem digit_ne (u : Nat) (c : UInt8) (h : c ∈ Lib.decDigits u) : c ≠ 32 := by
  induction u using Nat.strongRecOn with
  | _ u ih =>
    rw [Lib.decDigits] at h
    split at h
    · rename_i h1
      rw [List.mem_singleton] at h
      subst h
      intro e
      have := congrArg UInt8.toNat e
      rw [UInt8.toNat_ofNat'] at this
      simp at this
      omega
    · rename_i h1
      rcases List.mem_append.1 h with h | h
      · exact ih (u / 10) (by omega) h
      · rw [List.mem_singleton] at h
        subst h
        intro e
        have := congrArg UInt8.toNat e
        rw [UInt8.toNat_ofNat'] at this
        simp at this
        omega

theorem before_span (a : Int) (d : Nat) (w : World) (h0 : 0 ≤ a) (h1 : a ≤ 315537897600000000) (hd : a.tdiv 86400000000 = (d : Int)) :
    Calls Tryf.prog 12 #[.string ⟨(span [] a).toArray⟩] w fun e w' => e = .returned (.tuple #[.string ⟨(Lib.decDigits d).toArray⟩, .bool true]) ∧ w' = w := by
  have hit : Lib.itoa (a.tdiv 86400000000) = Lib.decDigits d := by
    rw [hd, Lib.itoa, if_neg (by omega)]; simp
  obtain ⟨tl, htl⟩ : ∃ tl, span [] a = Lib.decDigits d ++ 32 :: tl := ⟨_, by simp only [span, txtA, hit, List.nil_append]; rfl⟩
  have hsz := span_size a h0 h1
  rw [htl] at hsz ⊢
  have hm : (Lib.decDigits d).length < (⟨(Lib.decDigits d ++ 32 :: tl).toArray⟩ : ByteArray).size := by simp [ByteArray.size]
  have hlo : ∀ k (h : k < (Lib.decDigits d).length), ((((⟨(Lib.decDigits d ++ 32 :: tl).toArray⟩ : ByteArray)[k]'(by omega)).toNat : Int) == 32) = false := by
    intro k hk
    have e : ((⟨(Lib.decDigits d ++ 32 :: tl).toArray⟩ : ByteArray)[k]'(by omega)) = (Lib.decDigits d)[k] := by
      show ((Lib.decDigits d ++ 32 :: tl).toArray)[k]'(by simp; omega) = _
      simp [List.getElem_append_left hk]
    rw [e, beq_eq_false_iff_ne]
    have := digit_ne d _ (List.getElem_mem hk)
    intro e2
    apply this
    apply UInt8.toNat_inj.1
    simp
    omega
  have hat : ((((⟨(Lib.decDigits d ++ 32 :: tl).toArray⟩ : ByteArray)[(Lib.decDigits d).length]'hm).toNat : Int) == 32) = true := by
    have e : ((⟨(Lib.decDigits d ++ 32 :: tl).toArray⟩ : ByteArray)[(Lib.decDigits d).length]'hm) = 32 := by
      show ((Lib.decDigits d ++ 32 :: tl).toArray)[(Lib.decDigits d).length]'(by simp) = _
      simp
    rw [e]; rfl
  have := before_at ⟨(Lib.decDigits d ++ 32 :: tl).toArray⟩ (Lib.decDigits d).length w hm (by simp [ByteArray.size] at hsz ⊢; omega) hlo hat
  have ex : (⟨(Lib.decDigits d ++ 32 :: tl).toArray⟩ : ByteArray).extract 0 (Lib.decDigits d).length = ⟨(Lib.decDigits d).toArray⟩ := by
    apply ByteArray.ext
    simp
  rw [ex] at this
  exact this
end Go.Proofs.Qxb6608910aFmt
