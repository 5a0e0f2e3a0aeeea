/- 'same' and its two callers, at this seat's dump. -/
import Derived.Test.Qxb6608960aWa
namespace Go.Proofs.Qxb6608960a
open Go.RowKit
set_option linter.unusedVariables false

/-- All n enrollees bear the same number in column f. -/
def AllEq (n f : Nat) (Z : Nat → Nat → Int) : Prop := ∀ i, i < n → Z i f = Z 0 f

set_option maxHeartbeats 1000000 in
theorem same_prem_one (b o : Nat) (Z : Nat → Nat → Int) (w : World) (hr : Rd w b o 1 Z) :
    Calls Try.prog 23 #[.slice (some ⟨b, o, none⟩) 1 1, .func (.func 24) #[] #[]] w fun e w' => e = .returned (.tuple #[.int .i64 (Z 0 0), .bool true]) ∧ Below w.heap.size w w' := by
  have r0 : w.cell? ⟨b, o, none⟩ = some (.int .i64 (Z 0 0)) := hr 0 (by omega) 0 (by omega)
  have r1 : w.cell? ⟨b, o + 1, none⟩ = some (.int .i64 (Z 0 1)) := hr 0 (by omega) 1 (by omega)
  have r2 : w.cell? ⟨b, o + 2, none⟩ = some (.int .i64 (Z 0 2)) := hr 0 (by omega) 2 (by omega)
  have r3 : w.cell? ⟨b, o + 3, none⟩ = some (.int .i64 (Z 0 3)) := hr 0 (by omega) 3 (by omega)
  clear hr
  go_enter Try.func23, Try.ntmps23
  go_wp2_with fail
  refine (prem_any _ _ _ _ _).mono ?_
  rintro e w' ⟨rfl, rfl⟩
  go_wp2_with fail
  go_loop [17] (fun i => i = .int .i64 0) (fun _ => 0)
  case atStart => rfl
  case round =>
    subst hrel
    go_wp2_with fail
    go_ret2
    exact ⟨rfl, (Below.refl _ _).alloc (Nat.le_refl _) _⟩

set_option maxHeartbeats 1000000 in
theorem same_prem_more (b o m c : Nat) (Z : Nat → Nat → Int) (w : World) (hnc : m + 1 ≤ c) (hc1 : 2 ≤ c) (hm : m ≤ 32769) (hbw : b < w.heap.size) (hr : Rd w b o (m + 1) Z) (ok : Bool) (hok : ok = true ↔ AllEq (m + 1) 0 Z) :
    Calls Try.prog 23 #[.slice (some ⟨b, o, none⟩) (m + 1) c, .func (.func 24) #[] #[]] w fun e w' => e = .returned (.tuple #[.int .i64 (if ok then Z 0 0 else 0), .bool ok]) ∧ Below w.heap.size w w' := by
  have r0 : w.cell? ⟨b, o, none⟩ = some (.int .i64 (Z 0 0)) := hr 0 (by omega) 0 (by omega)
  have r1 : w.cell? ⟨b, o + 1, none⟩ = some (.int .i64 (Z 0 1)) := hr 0 (by omega) 1 (by omega)
  have r2 : w.cell? ⟨b, o + 2, none⟩ = some (.int .i64 (Z 0 2)) := hr 0 (by omega) 2 (by omega)
  have r3 : w.cell? ⟨b, o + 3, none⟩ = some (.int .i64 (Z 0 3)) := hr 0 (by omega) 3 (by omega)
  have HR := hid hr
  have HOK := hid hok
  clear hr hok
  go_enter Try.func23, Try.ntmps23
  go_wp2_with fail
  refine (prem_any _ _ _ _ _).mono ?_
  rintro e w' ⟨rfl, rfl⟩
  go_wp2_with fail
  go_loopg [17] m (fun gn i wr => ∃ k : Nat, k + gn = m ∧ i = .int .i64 k ∧ Below w.heap.size w wr ∧ ∀ j, j ≤ k → Z j 0 = Z 0 0)
  case atStart => exact ⟨0, by omega, rfl, (Below.refl _ _).alloc (Nat.le_refl _) _, fun j hj => by rw [Nat.le_zero.1 hj]⟩
  case round =>
    obtain ⟨k, hk, rfl, hb, hf⟩ := hrel
    by_cases hlt : k < m
    · have q0 : wr.cell? ⟨b, o + 4 + k * 4, none⟩ = some (.int .i64 (Z (k + 1) 0)) := (hb.cell (p := ⟨b, o + 4 + k * 4, none⟩) hbw).trans (by have := HR.out (k + 1) (by omega) 0 (by omega); rw [← this]; congr 2; omega)
      have q1 : wr.cell? ⟨b, o + 4 + k * 4 + 1, none⟩ = some (.int .i64 (Z (k + 1) 1)) := (hb.cell (p := ⟨b, o + 4 + k * 4 + 1, none⟩) hbw).trans (by have := HR.out (k + 1) (by omega) 1 (by omega); rw [← this]; congr 2; omega)
      have q2 : wr.cell? ⟨b, o + 4 + k * 4 + 2, none⟩ = some (.int .i64 (Z (k + 1) 2)) := (hb.cell (p := ⟨b, o + 4 + k * 4 + 2, none⟩) hbw).trans (by have := HR.out (k + 1) (by omega) 2 (by omega); rw [← this]; congr 2; omega)
      have q3 : wr.cell? ⟨b, o + 4 + k * 4 + 3, none⟩ = some (.int .i64 (Z (k + 1) 3)) := (hb.cell (p := ⟨b, o + 4 + k * 4 + 3, none⟩) hbw).trans (by have := HR.out (k + 1) (by omega) 3 (by omega); rw [← this]; congr 2; omega)
      have SZ : Hid (w.heap.size ≤ wr.heap.size) := hb.size
      have HB := hid hb
      have HF := hid hf
      have HK := hid hk
      clear hb hf hk r0 r1 r2 r3
      by_cases hd : Z (k + 1) 0 = Z 0 0
      · have hd' : (Z (k + 1) 0 == Z 0 0) = true := by simp [hd]
        have HD := hid hd
        clear hd
        go_wp2_with fail
        refine (prem_any _ _ _ _ _).mono ?_
        rintro e w' ⟨rfl, rfl⟩
        go_wp2_with fail
        go_roundg (gk - 1)
        case measure => have := HK.out; omega
        case rel =>
          refine ⟨k + 1, by have := HK.out; omega, by go_num, ?_, fun j hj => ?_⟩
          · exact (HB.out.alloc SZ.out _).alloc (by have := SZ.out; simp; omega) _
          · rcases Nat.lt_or_ge k j with h | h
            · rw [show j = k + 1 by omega]; exact HD.out
            · exact HF.out j h
      · have hd' : (Z (k + 1) 0 == Z 0 0) = false := by simp [hd]
        have HD := hid hd
        clear hd
        have hf : ok = false := by
          cases h : ok
          · rfl
          · exact absurd (HOK.out.1 h (k + 1) (by omega)) HD.out
        subst hf
        clear HOK
        go_wp2_with fail
        refine (prem_any _ _ _ _ _).mono ?_
        rintro e w' ⟨rfl, rfl⟩
        go_wp2_with fail
        go_ret2
        exact ⟨rfl, (HB.out.alloc SZ.out _).alloc (by have := SZ.out; simp; omega) _⟩
    · have hkl : k = m := by omega
      have HB := hid hb
      have HF := hid hf
      clear hb hf hk
      have hf : ok = true := HOK.out.2 (fun i hi => HF.out i (by omega))
      subst hf
      clear HOK
      go_wp2_with fail
      go_ret2
      exact ⟨rfl, HB.out⟩

theorem same_prem (b o n c : Nat) (Z : Nat → Nat → Int) (w : World) (hn : 0 < n) (hnc : n ≤ c) (hm : n ≤ 32769) (hbw : b < w.heap.size) (hr : Rd w b o n Z) (ok : Bool) (hok : ok = true ↔ AllEq n 0 Z) :
    Calls Try.prog 23 #[.slice (some ⟨b, o, none⟩) n c, .func (.func 24) #[] #[]] w fun e w' => e = .returned (.tuple #[.int .i64 (if ok then Z 0 0 else 0), .bool ok]) ∧ Below w.heap.size w w' := by
  by_cases hc : c = 1
  · subst hc
    obtain rfl : n = 1 := by omega
    obtain rfl : ok = true := hok.2 (fun i hi => by rw [show i = 0 by omega])
    exact same_prem_one b o Z w hr
  · obtain ⟨m, rfl⟩ : ∃ m, n = m + 1 := ⟨n - 1, by omega⟩
    exact same_prem_more b o m c Z w hnc (by omega) (by omega) hbw hr ok hok

theorem zz_prem (b o n c : Nat) (Z : Nat → Nat → Int) (w : World) (hn : 0 < n) (hnc : n ≤ c) (hm : n ≤ 32769) (hbw : b < w.heap.size) (hr : Rd w b o n Z) (ok : Bool) (hok : ok = true ↔ AllEq n 0 Z) :
    Calls Try.prog 12 #[.slice (some ⟨b, o, none⟩) n c] w fun e w' => e = .returned (.tuple #[.int .i64 (if ok then Z 0 0 else 0), .bool ok]) ∧ Below w.heap.size w w' := by
  have CT := hid (same_prem b o n c Z w hn hnc hm hbw hr ok hok)
  generalize (if ok then Z 0 0 else 0) = r at *
  clear hr hok
  go_enter Try.func12, Try.ntmps12
  go_wp2_with fail
  refine CT.out.mono ?_
  rintro e w' ⟨rfl, hb⟩
  have HB := hid hb
  clear hb
  go_wp2_with fail
  go_ret2
  exact ⟨rfl, HB.out⟩

set_option maxHeartbeats 1000000 in
theorem same_paid_one (b o : Nat) (Z : Nat → Nat → Int) (w : World) (hr : Rd w b o 1 Z) :
    Calls Try.prog 23 #[.slice (some ⟨b, o, none⟩) 1 1, .func (.func 26) #[] #[]] w fun e w' => e = .returned (.tuple #[.int .i64 (Z 0 1), .bool true]) ∧ Below w.heap.size w w' := by
  have r0 : w.cell? ⟨b, o, none⟩ = some (.int .i64 (Z 0 0)) := hr 0 (by omega) 0 (by omega)
  have r1 : w.cell? ⟨b, o + 1, none⟩ = some (.int .i64 (Z 0 1)) := hr 0 (by omega) 1 (by omega)
  have r2 : w.cell? ⟨b, o + 2, none⟩ = some (.int .i64 (Z 0 2)) := hr 0 (by omega) 2 (by omega)
  have r3 : w.cell? ⟨b, o + 3, none⟩ = some (.int .i64 (Z 0 3)) := hr 0 (by omega) 3 (by omega)
  clear hr
  go_enter Try.func23, Try.ntmps23
  go_wp2_with fail
  refine (paid_any _ _ _ _ _).mono ?_
  rintro e w' ⟨rfl, rfl⟩
  go_wp2_with fail
  go_loop [17] (fun i => i = .int .i64 0) (fun _ => 0)
  case atStart => rfl
  case round =>
    subst hrel
    go_wp2_with fail
    go_ret2
    exact ⟨rfl, (Below.refl _ _).alloc (Nat.le_refl _) _⟩

set_option maxHeartbeats 1000000 in
theorem same_paid_more (b o m c : Nat) (Z : Nat → Nat → Int) (w : World) (hnc : m + 1 ≤ c) (hc1 : 2 ≤ c) (hm : m ≤ 32769) (hbw : b < w.heap.size) (hr : Rd w b o (m + 1) Z) (ok : Bool) (hok : ok = true ↔ AllEq (m + 1) 1 Z) :
    Calls Try.prog 23 #[.slice (some ⟨b, o, none⟩) (m + 1) c, .func (.func 26) #[] #[]] w fun e w' => e = .returned (.tuple #[.int .i64 (if ok then Z 0 1 else 0), .bool ok]) ∧ Below w.heap.size w w' := by
  have r0 : w.cell? ⟨b, o, none⟩ = some (.int .i64 (Z 0 0)) := hr 0 (by omega) 0 (by omega)
  have r1 : w.cell? ⟨b, o + 1, none⟩ = some (.int .i64 (Z 0 1)) := hr 0 (by omega) 1 (by omega)
  have r2 : w.cell? ⟨b, o + 2, none⟩ = some (.int .i64 (Z 0 2)) := hr 0 (by omega) 2 (by omega)
  have r3 : w.cell? ⟨b, o + 3, none⟩ = some (.int .i64 (Z 0 3)) := hr 0 (by omega) 3 (by omega)
  have HR := hid hr
  have HOK := hid hok
  clear hr hok
  go_enter Try.func23, Try.ntmps23
  go_wp2_with fail
  refine (paid_any _ _ _ _ _).mono ?_
  rintro e w' ⟨rfl, rfl⟩
  go_wp2_with fail
  go_loopg [17] m (fun gn i wr => ∃ k : Nat, k + gn = m ∧ i = .int .i64 k ∧ Below w.heap.size w wr ∧ ∀ j, j ≤ k → Z j 1 = Z 0 1)
  case atStart => exact ⟨0, by omega, rfl, (Below.refl _ _).alloc (Nat.le_refl _) _, fun j hj => by rw [Nat.le_zero.1 hj]⟩
  case round =>
    obtain ⟨k, hk, rfl, hb, hf⟩ := hrel
    by_cases hlt : k < m
    · have q0 : wr.cell? ⟨b, o + 4 + k * 4, none⟩ = some (.int .i64 (Z (k + 1) 0)) := (hb.cell (p := ⟨b, o + 4 + k * 4, none⟩) hbw).trans (by have := HR.out (k + 1) (by omega) 0 (by omega); rw [← this]; congr 2; omega)
      have q1 : wr.cell? ⟨b, o + 4 + k * 4 + 1, none⟩ = some (.int .i64 (Z (k + 1) 1)) := (hb.cell (p := ⟨b, o + 4 + k * 4 + 1, none⟩) hbw).trans (by have := HR.out (k + 1) (by omega) 1 (by omega); rw [← this]; congr 2; omega)
      have q2 : wr.cell? ⟨b, o + 4 + k * 4 + 2, none⟩ = some (.int .i64 (Z (k + 1) 2)) := (hb.cell (p := ⟨b, o + 4 + k * 4 + 2, none⟩) hbw).trans (by have := HR.out (k + 1) (by omega) 2 (by omega); rw [← this]; congr 2; omega)
      have q3 : wr.cell? ⟨b, o + 4 + k * 4 + 3, none⟩ = some (.int .i64 (Z (k + 1) 3)) := (hb.cell (p := ⟨b, o + 4 + k * 4 + 3, none⟩) hbw).trans (by have := HR.out (k + 1) (by omega) 3 (by omega); rw [← this]; congr 2; omega)
      have SZ : Hid (w.heap.size ≤ wr.heap.size) := hb.size
      have HB := hid hb
      have HF := hid hf
      have HK := hid hk
      clear hb hf hk r0 r1 r2 r3
      by_cases hd : Z (k + 1) 1 = Z 0 1
      · have hd' : (Z (k + 1) 1 == Z 0 1) = true := by simp [hd]
        have HD := hid hd
        clear hd
        go_wp2_with fail
        refine (paid_any _ _ _ _ _).mono ?_
        rintro e w' ⟨rfl, rfl⟩
        go_wp2_with fail
        go_roundg (gk - 1)
        case measure => have := HK.out; omega
        case rel =>
          refine ⟨k + 1, by have := HK.out; omega, by go_num, ?_, fun j hj => ?_⟩
          · exact (HB.out.alloc SZ.out _).alloc (by have := SZ.out; simp; omega) _
          · rcases Nat.lt_or_ge k j with h | h
            · rw [show j = k + 1 by omega]; exact HD.out
            · exact HF.out j h
      · have hd' : (Z (k + 1) 1 == Z 0 1) = false := by simp [hd]
        have HD := hid hd
        clear hd
        have hf : ok = false := by
          cases h : ok
          · rfl
          · exact absurd (HOK.out.1 h (k + 1) (by omega)) HD.out
        subst hf
        clear HOK
        go_wp2_with fail
        refine (paid_any _ _ _ _ _).mono ?_
        rintro e w' ⟨rfl, rfl⟩
        go_wp2_with fail
        go_ret2
        exact ⟨rfl, (HB.out.alloc SZ.out _).alloc (by have := SZ.out; simp; omega) _⟩
    · have hkl : k = m := by omega
      have HB := hid hb
      have HF := hid hf
      clear hb hf hk
      have hf : ok = true := HOK.out.2 (fun i hi => HF.out i (by omega))
      subst hf
      clear HOK
      go_wp2_with fail
      go_ret2
      exact ⟨rfl, HB.out⟩

theorem same_paid (b o n c : Nat) (Z : Nat → Nat → Int) (w : World) (hn : 0 < n) (hnc : n ≤ c) (hm : n ≤ 32769) (hbw : b < w.heap.size) (hr : Rd w b o n Z) (ok : Bool) (hok : ok = true ↔ AllEq n 1 Z) :
    Calls Try.prog 23 #[.slice (some ⟨b, o, none⟩) n c, .func (.func 26) #[] #[]] w fun e w' => e = .returned (.tuple #[.int .i64 (if ok then Z 0 1 else 0), .bool ok]) ∧ Below w.heap.size w w' := by
  by_cases hc : c = 1
  · subst hc
    obtain rfl : n = 1 := by omega
    obtain rfl : ok = true := hok.2 (fun i hi => by rw [show i = 0 by omega])
    exact same_paid_one b o Z w hr
  · obtain ⟨m, rfl⟩ : ∃ m, n = m + 1 := ⟨n - 1, by omega⟩
    exact same_paid_more b o m c Z w hnc (by omega) (by omega) hbw hr ok hok

theorem zz_paid (b o n c : Nat) (Z : Nat → Nat → Int) (w : World) (hn : 0 < n) (hnc : n ≤ c) (hm : n ≤ 32769) (hbw : b < w.heap.size) (hr : Rd w b o n Z) (ok : Bool) (hok : ok = true ↔ AllEq n 1 Z) :
    Calls Try.prog 15 #[.slice (some ⟨b, o, none⟩) n c] w fun e w' => e = .returned (.tuple #[.int .i64 (if ok then Z 0 1 else 0), .bool ok]) ∧ Below w.heap.size w w' := by
  have CT := hid (same_paid b o n c Z w hn hnc hm hbw hr ok hok)
  generalize (if ok then Z 0 1 else 0) = r at *
  clear hr hok
  go_enter Try.func15, Try.ntmps15
  go_wp2_with fail
  refine CT.out.mono ?_
  rintro e w' ⟨rfl, hb⟩
  have HB := hid hb
  clear hb
  go_wp2_with fail
  go_ret2
  exact ⟨rfl, HB.out⟩

end Go.Proofs.Qxb6608960a
