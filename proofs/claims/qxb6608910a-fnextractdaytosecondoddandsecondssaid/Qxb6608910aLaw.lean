/- The plain law of a span's fields: no Go in sight. -/
import Derived.Test.Qxb6608910aWc
namespace Go.Proofs.Qxb6608910a

theorem short_mul (s : Nat) (u : Int) : (short s u).1 * pw10 (s - (short s u).2) = u := by
  induction s generalizing u with
  | zero => simp [short, pw10]
  | succ s ih =>
    unfold short
    split
    · rename_i h
      have h1 := ih (u.tdiv 10)
      have h2 := short_le s (u.tdiv 10)
      rw [show s + 1 - (short s (u.tdiv 10)).2 = (s - (short s (u.tdiv 10)).2) + 1 from by omega, pw10_succ, ← Int.mul_assoc, h1]
      have := tdiv_cases u 10
      omega
    · simp [pw10]

theorem short_odd (s : Nat) (u : Int) : short s (-u) = (-(short s u).1, (short s u).2) := by
  induction s generalizing u with
  | zero => simp [short]
  | succ s ih =>
    have e : ((-u).tmod 10 = 0) = (u.tmod 10 = 0) := by rw [Int.neg_tmod]; simp
    unfold short
    simp only [e]
    split
    · rw [Int.neg_tdiv, ih]
    · rfl

theorem short_ne (s : Nat) (u : Int) (h : 0 < (short s u).2) : (short s u).1.tmod 10 ≠ 0 := by
  induction s generalizing u with
  | zero => simp [short] at h
  | succ s ih =>
    unfold short at h ⊢
    split
    · rename_i h0
      rw [if_pos h0] at h
      exact ih _ h
    · assumption

theorem short_bd (s : Nat) (u B : Int) (h1 : -B ≤ u) (h2 : u ≤ B) : -B ≤ (short s u).1 ∧ (short s u).1 ≤ B := by
  induction s generalizing u with
  | zero => exact ⟨h1, h2⟩
  | succ s ih =>
    unfold short
    split
    · have := tdiv_cases u 10
      exact ih _ (by omega) (by omega)
    · exact ⟨h1, h2⟩

theorem fieldU_odd (a f : Int) : fieldU (-a) f = -fieldU a f := by
  unfold fieldU
  simp only [Int.neg_tdiv, Int.neg_tmod]
  split
  · rfl
  split
  · rfl
  split
  · rfl
  omega

theorem fld_odd (a f : Int) : fld (-a) f = (-(fld a f).1, (fld a f).2) := by
  unfold fld; rw [fieldU_odd, short_odd]

theorem fieldU_6 (a : Int) : fieldU a 6 = a.tmod 60000000 := by
  have t6 := tdiv_cases a 1000000
  have t7 := tdiv_cases (a.tdiv 1000000) 60
  have t8 := tdiv_cases a 60000000
  show (a.tdiv 1000000).tmod 60 * 1000000 + a.tmod 1000000 = a.tmod 60000000
  omega

theorem fieldU_bd (a f : Int) (h1 : -315537897600000000 ≤ a) (h2 : a ≤ 315537897600000000) : -315537897600000000 ≤ fieldU a f ∧ fieldU a f ≤ 315537897600000000 := by
  have t1 := tdiv_cases a 86400000000
  have t2 := tdiv_cases a 3600000000
  have t3 := tdiv_cases (a.tdiv 3600000000) 24
  have t4 := tdiv_cases a 60000000
  have t5 := tdiv_cases (a.tdiv 60000000) 60
  have t6 := tdiv_cases a 1000000
  have t7 := tdiv_cases (a.tdiv 1000000) 60
  unfold fieldU
  split
  · omega
  split
  · omega
  split
  · omega
  omega

theorem fld_bd (a f : Int) (h1 : -315537897600000000 ≤ a) (h2 : a ≤ 315537897600000000) : -315537897600000000 ≤ (fld a f).1 ∧ (fld a f).1 ≤ 315537897600000000 := by
  obtain ⟨b1, b2⟩ := fieldU_bd a f h1 h2
  exact short_bd _ _ _ b1 b2

/-- The SECOND field: what the law asks of it. -/
theorem fld_6 (a : Int) : (fld a 6).2 ≤ 6 ∧ (0 < (fld a 6).2 → (fld a 6).1.tmod 10 ≠ 0) ∧ -59999999 ≤ (fld a 6).1 ∧ (fld a 6).1 ≤ 59999999 ∧ (fld a 6).1 * pw10 (6 - (fld a 6).2) = a.tmod 60000000 := by
  have t8 := tdiv_cases a 60000000
  have e : fld a 6 = short 6 (a.tmod 60000000) := by unfold fld; rw [fieldU_6]; rfl
  rw [e]
  obtain ⟨b1, b2⟩ := short_bd 6 (a.tmod 60000000) 59999999 (by omega) (by omega)
  exact ⟨short_le 6 _, short_ne 6 _, b1, b2, short_mul 6 _⟩

theorem fld_3 (a : Int) : fld a 3 = (a.tdiv 86400000000, 0) := rfl
theorem fld_4 (a : Int) : fld a 4 = ((a.tdiv 3600000000).tmod 24, 0) := rfl
theorem fld_5 (a : Int) : fld a 5 = ((a.tdiv 60000000).tmod 60, 0) := rfl
end Go.Proofs.Qxb6608910a
