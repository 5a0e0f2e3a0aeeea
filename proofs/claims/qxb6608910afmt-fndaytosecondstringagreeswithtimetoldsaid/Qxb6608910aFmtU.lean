/- uitoa, padLeft and beforeSpace, at this seat's dump. -/
import Derived.Test.Qxb6608910aFmtWa
import Derived.Deep.OwnRows
import Derived.Deep.LoopGhost
import Derived.Laws.IdiomStrings
import Derived.Lib.ItoaNum
import Derived.Lib.ItoaLen
namespace Go.Proofs.Qxb6608910aFmt
open Go.RowKit
set_option linter.unusedVariables false

/-- The digits of u, none for 0. -/
def dd (u : Nat) : List UInt8 := if u = 0 then [] else Lib.decDigits u
theorem dd_step {u : Nat} (h : 0 < u) : dd u = dd (u / 10) ++ [UInt8.ofNat (48 + u % 10)] := by
  unfold dd
  rw [if_neg (by omega)]
  by_cases h1 : u < 10
  · rw [if_pos (by omega), Lib.decDigits_one h1, Nat.mod_eq_of_lt h1]; rfl
  · rw [if_neg (by omega)]
    conv => lhs; rw [Lib.decDigits, dif_neg h1]
/-- What is laid in the array: from cell j on, the bytes L. -/
def Lain (w : World) (b j : Nat) (L : List UInt8) : Prop := ∃ F, w.rowIs b 46 20 F ∧ ∀ i (hi : i < L.length), F (j + i) = .int .u8 ((L[i]'hi).toNat : Int)

theorem lain0 (w : World) : Lain (w.alloc (.cells #[Value.int .u8 0, Value.int .u8 0, Value.int .u8 0, Value.int .u8 0, Value.int .u8 0, Value.int .u8 0, Value.int .u8 0, Value.int .u8 0, Value.int .u8 0, Value.int .u8 0, Value.int .u8 0, Value.int .u8 0, Value.int .u8 0, Value.int .u8 0, Value.int .u8 0, Value.int .u8 0, Value.int .u8 0, Value.int .u8 0, Value.int .u8 0, Value.int .u8 0] 46)) w.heap.size 20 [] :=
  ⟨fun _ => .int .u8 0, World.rowIs_alloc w (Array.replicate 20 (Value.int .u8 0)) 46 (fun _ => .int .u8 0) (fun i hi => by simp at hi; simp [hi]), fun i hi => by simp at hi⟩
theorem Lain.step {w : World} {b j u : Nat} {L : List UInt8} {F : Nat → Value} (hr : w.rowIs b 46 20 F) (hF : ∀ i (hi : i < L.length), F (j + i) = .int .u8 ((L[i]'hi).toNat : Int)) (hj : 0 < j) :
    Lain (w.setCell ⟨b, j - 1, none⟩ (.int .u8 (48 + (u : Int) % 10))) b (j - 1) (UInt8.ofNat (48 + u % 10) :: L) := by
  refine ⟨_, hr.set (j - 1) _, fun i hi => ?_⟩
  cases i with
  | zero =>
    simp only [Nat.add_zero, if_true, List.getElem_cons_zero]
    have : (UInt8.ofNat (48 + u % 10)).toNat = 48 + u % 10 := by
      rw [UInt8.toNat_ofNat']; omega
    rw [this]; simp
  | succ i =>
    rw [if_neg (by omega), show j - 1 + (i + 1) = j + i by omega]
    exact hF i (by simpa using hi)
theorem Lain.cells {w : World} {b j : Nat} {L : List UInt8} (h : Lain w b j L) (hL : L.length + j = 20) : ∀ i (hi : i < L.length), w.cell? ((⟨b, j, none⟩ : Addr).add i) = some (.int .u8 ((L[i]'hi).toNat : Int)) := by
  obtain ⟨F, hr, hF⟩ := h
  intro i hi
  rw [show (⟨b, j, none⟩ : Addr).add i = ⟨b, j + i, none⟩ by unfold Addr.add; split <;> simp_all, hr.cell (by omega), hF i hi]

theorem al46 : Tryf.prog.arrayLen 46 = 20 := by kernel_rfl
theorem sl46 (b j : Nat) (hj : j < 20) (W : World) : (Instr.sliceAt 46 (.pointer (some ⟨b, 0, none⟩)) (some (.int .i64 (j : Int))) none none).run Tryf.prog W = .ok (.slice (some ⟨b, j, none⟩) (20 - j) (20 - j)) W := by
  rw [run_sliceAt_array_l W 46 ⟨b, 0, none⟩ (by simp [Program.arrayLen, Program.elem, Tryf.underlying46]) .i64 (j : Int) (by omega) (by rw [al46]; omega)]
  have ne : ¬ 20 = j := by omega
  have e : (⟨b, 0, none⟩ : Addr).add j = ⟨b, j, none⟩ := by unfold Addr.add; split <;> simp_all
  go_simp

set_option maxRecDepth 10000 in
set_option maxHeartbeats 2000000 in
theorem uitoa_pos (n : Nat) (w : World) (h0 : 0 < n) (h1 : n < 18446744073709551616) :
    Calls Tryf.prog 8 #[.int .u64 n] w fun e w' => e = .returned (.string ⟨(Lib.decDigits n).toArray⟩) ∧ Below w.heap.size w w' := by
  have d0 : ((n : Int) == 0) = false := by rw [beq_eq_false_iff_ne]; omega
  have HD := hid (show dd n = Lib.decDigits n by unfold dd; rw [if_neg (by omega)])
  go_enter Tryf.func8, Tryf.ntmps8
  go_wp2_with fail
  go_loopg [0, 4] 20 (fun gn vu vi wr => ∃ (u j : Nat) (L : List UInt8), gn = j ∧ vu = .int .u64 u ∧ vi = .int .i64 j ∧ L.length + j = 20 ∧ u < 10 ^ j ∧ u ≤ n ∧ dd u ++ L = dd n ∧ Below w.heap.size w wr ∧ Lain wr w.heap.size j L)
  case atStart =>
    refine ⟨n, 20, [], rfl, rfl, rfl, rfl, by omega, by omega, by simp, (Below.refl _ _).alloc (Nat.le_refl _) _, lain0 w⟩
  case round =>
    obtain ⟨u, j, L, rfl, rfl, rfl, hL, hu, hun, hd, hb, hl⟩ := hrel
    by_cases hz : u = 0
    · subst hz
      have hLn : L = Lib.decDigits n := by rw [← HD.out, ← hd]; rfl
      have hlen : 0 < L.length := by rw [hLn, Lib.decDigits_length]; exact Lib.nDigits_pos n
      have hcv := run_convert_bytes_back (P := Tryf.prog) wr 47 9 5 ⟨w.heap.size, gk, none⟩ (20 - gk) L Tryf.underlying47 Tryf.underlying5 Tryf.underlying9 (hl.cells hL)
      rw [show L.length = 20 - gk by omega] at hcv
      have g1 : gk < 20 := by omega
      have hsl := sl46 w.heap.size gk g1
      have HB := hid hb
      have HLN := hid hLn
      clear hb hd hl hu hLn
      go_wp2_with fail
      go_ret
      exact ⟨by rw [HLN.out]; rfl, HB.out⟩
    · have z1 : (0 : Int) < u := by omega
      have hj : 0 < gk := by
        rcases Nat.eq_zero_or_pos gk with h | h
        · subst h; simp at hu; omega
        · exact h
      obtain ⟨F, hrow, hF⟩ := hl
      have c0 : wr.cell? ⟨w.heap.size, gk - 1, none⟩ = some (F (gk - 1)) := hrow.cell (by omega)
      have f0 : wr.frozen? ⟨w.heap.size, gk - 1, none⟩ = false := hrow.frozen (gk - 1)
      have HB := hid hb
      have HR := hid hrow
      have HF := hid hF
      have HDD := hid hd
      have HU := hid hu
      clear hb hrow hF hd hu
      have hj20 : gk ≤ 20 := by omega
      go_wp2_with fail
      go_roundg (gk - 1)
      case measure => omega
      case rel =>
        refine ⟨u / 10, gk - 1, UInt8.ofNat (48 + u % 10) :: L, rfl, by go_num, by go_num, by simp; omega, ?_, by omega, ?_, HB.out.setCell (p := ⟨w.heap.size, gk - 1, none⟩) (Nat.le_refl _) _, Lain.step HR.out HF.out hj⟩
        · obtain ⟨m, rfl⟩ : ∃ m, gk = m + 1 := ⟨gk - 1, by omega⟩
          have := HU.out
          rw [Nat.pow_succ] at this
          show u / 10 < 10 ^ m
          omega
        · rw [← HDD.out, dd_step (show 0 < u by omega)]; simp
theorem uitoa_any (n : Nat) (w : World) (h1 : n < 18446744073709551616) :
    Calls Tryf.prog 8 #[.int .u64 n] w fun e w' => e = .returned (.string ⟨(Lib.decDigits n).toArray⟩) ∧ Below w.heap.size w w' := by
  by_cases h0 : n = 0
  · subst h0
    go_enter Tryf.func8, Tryf.ntmps8
    go_wp2_with fail
    go_ret
    exact ⟨by rw [Lib.decDigits_one (by omega)]; rfl, Below.refl _ _⟩
  · exact uitoa_pos n w (by omega) h1

theorem ba_append (a b : List UInt8) : (⟨a.toArray⟩ : ByteArray) ++ ⟨b.toArray⟩ = ⟨(a ++ b).toArray⟩ := by
  apply ByteArray.ext
  simp
/-- padLeft: zeros ahead, up to 6 signs. -/
theorem pad_any (L : List UInt8) (w : World) (hL : L.length ≤ 20) :
    Calls Tryf.prog 10 #[.string ⟨L.toArray⟩, .int .i64 6] w fun e w' => e = .returned (.string ⟨(List.replicate (6 - L.length) 48 ++ L).toArray⟩) ∧ w' = w := by
  go_enter Tryf.func10, Tryf.ntmps10
  go_wp2_with fail
  go_loopg [0] (6 - L.length) (fun gn v wr => ∃ k : Nat, k + gn = 6 - L.length ∧ v = .string ⟨(List.replicate k 48 ++ L).toArray⟩ ∧ wr = w)
  case atStart => exact ⟨0, by omega, by simp, rfl⟩
  case round =>
    obtain ⟨k, hk, rfl, rfl⟩ := hrel
    have hsz : (⟨(List.replicate k 48 ++ L).toArray⟩ : ByteArray).size = k + L.length := by simp [ByteArray.size]
    by_cases hlt : k + L.length < 6
    · have h1 : (k : Int) + L.length < 6 := by omega
      generalize hS : (⟨(List.replicate k 48 ++ L).toArray⟩ : ByteArray) = S at *
      have HS := hid hS
      clear hS
      go_wp2_with fail
      go_roundg (gk - 1)
      case measure => omega
      case rel => exact ⟨k + 1, by omega, by rw [← HS.out]; exact congrArg Value.string ((ba_append [48] _).trans (by rw [List.replicate_succ]; rfl)), rfl⟩
    · have h1 : (6 : Int) ≤ (k : Int) + L.length := by omega
      have hkk : k = 6 - L.length := by omega
      have HK := hid hkk
      clear hkk
      generalize hS : (⟨(List.replicate k 48 ++ L).toArray⟩ : ByteArray) = S at *
      have HS := hid hS
      clear hS
      go_wp2_with fail
      go_ret
      refine ⟨?_, rfl⟩
      rw [← HK.out, HS.out]
      rfl

/-- beforeSpace at a text whose first blank stands at place m. -/
theorem before_at (S : ByteArray) (m : Nat) (w : World) (hm : m < S.size) (hs : S.size ≤ 1000) (hlo : ∀ k (h : k < m), (((S[k]'(by omega)).toNat : Int) == 32) = false) (hat : (((S[m]'hm).toNat : Int) == 32) = true) :
    Calls Tryf.prog 12 #[.string S] w fun e w' => e = .returned (.tuple #[.string (S.extract 0 m), .bool true]) ∧ w' = w := by
  go_enter Tryf.func12, Tryf.ntmps12
  go_wp2_with fail
  go_loopg [4] m (fun gn v wr => ∃ k : Nat, k + gn = m ∧ v = .int .i64 k ∧ wr = w)
  case atStart => exact ⟨0, by omega, rfl, rfl⟩
  case round =>
    obtain ⟨k, hk, rfl, rfl⟩ := hrel
    by_cases hlt : k < m
    · have hk0 := hlo k hlt
      have k1 : k < S.size := by omega
      have k2 : (k : Int) < S.size := by omega
      clear hlo hat
      go_wp2_with fail
      go_roundg (gk - 1)
      case measure => omega
      case rel => exact ⟨k + 1, by omega, by go_num, rfl⟩
    · obtain rfl : k = m := by omega
      have k2 : (k : Int) < S.size := by omega
      clear hlo
      go_wp2_with fail
      go_ret2
      exact ⟨rfl, rfl⟩
end Go.Proofs.Qxb6608910aFmt
