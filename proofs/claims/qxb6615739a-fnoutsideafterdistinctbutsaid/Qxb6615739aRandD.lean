/- Walks over (*rand.Rand).uint64n and IntN, at this seat's dump. -/
import Derived.Test.Qxb6615739aRandC
import Derived.Deep.LoopGhost
namespace Go.Proofs.Qxb6615739a
open Go.RowKit
open Pcg (stHi stLo outp run)
set_option linter.unusedVariables false

set_option maxHeartbeats 400000 in
theorem u64n_pow (r b hi lo n : Nat) (w : World) (hr : RandAt w r b) (hb : PcgAt w b hi lo) (hhi : hi < 18446744073709551616) (hlo : lo < 18446744073709551616) (hn1 : 1 ≤ n) (hn2 : n ≤ 1000000)
    (hp : n &&& (n - 1) = 0) :
    Calls Try.prog 32 #[.pointer (some ⟨r, 0, none⟩), .int .u64 n] w fun e w' => e = .returned (.int .u64 ((outp (stHi hi lo) (stLo lo) &&& (n - 1) : Nat) : Int)) ∧ PcgAt w' b (stHi hi lo) (stLo lo) ∧ But b w w' := by
  have c := hid (rand64_any r b hi lo w hr hb hhi hlo)
  clear hr hb
  have e0 : bits .and .u64 (n : Int) ((n : Int) - 1) = 0 := by
    have := bits_and_u64_nat n (n - 1) (by omega) (by omega)
    rw [show ((n : Int) - 1) = ((n - 1 : Nat) : Int) from by omega, this, hp]; rfl
  go_enter Try.func32, Try.ntmps32
  go_wp2_with fail
  refine c.out.mono ?_
  rintro e w1 ⟨rfl, p1, q1⟩
  have P1 := hid p1
  have Q1 := hid q1
  clear p1 q1
  go_wp2_with fail
  have e1 : bits .and .u64 ((outp (stHi hi lo) (stLo lo) : Nat) : Int) ((n : Int) - 1) = ((outp (stHi hi lo) (stLo lo) &&& (n - 1) : Nat) : Int) := by
    rw [show ((n : Int) - 1) = ((n - 1 : Nat) : Int) from by omega]
    exact bits_and_u64_nat _ _ (Pcg.outp_lt _ _) (by omega)
  rw [e1]
  go_ret
  exact ⟨rfl, P1.out, Q1.out⟩

/-- The two words of x * n. -/
def ph (n x : Nat) : Nat := x * n / 18446744073709551616
def pl (n x : Nat) : Nat := x * n % 18446744073709551616
theorem mul_any (n x : Nat) (hx : x < 18446744073709551616) (hn : n < 18446744073709551616) (w : World) :
    Calls Try.prog 43 #[.int .u64 x, .int .u64 n] w fun e w' => e = .returned (.tuple #[.int .u64 (ph n x : Nat), .int .u64 (pl n x : Nat)]) ∧ w' = w := mul64 x n hx hn w
/-- Below this the low word is thrown away. -/
def th (n : Nat) : Nat := (18446744073709551616 - n) % n
theorem th_int (n : Nat) (h1 : 1 ≤ n) (h2 : n ≤ 1000000) : (IntKind.u64.wrap (-(n : Int))).tmod (n : Int) = ((th n : Nat) : Int) := by
  have e : IntKind.u64.wrap (-(n : Int)) = ((18446744073709551616 - n : Nat) : Int) := by rw [IntKind.wrap_u64]; omega
  rw [e]
  unfold th
  rw [Int.tmod_eq_emod_of_nonneg (Int.natCast_nonneg _), ← Int.natCast_emod]
/-- The draw x is taken, at n. -/
def acc (n x : Nat) : Prop := th n ≤ pl n x
/-- The j-th draw of the source. -/
def dr (hi lo j : Nat) : Nat := outp (run hi lo (j + 1)).1 (run hi lo (j + 1)).2
theorem acc_one (n : Nat) (h1 : 1 ≤ n) (h2 : n ≤ 1000000) : acc n 1 := by
  unfold acc th pl
  have : (18446744073709551616 - n) % n < n := Nat.mod_lt _ (by omega)
  rw [Nat.one_mul, Nat.mod_eq_of_lt (by omega : n < 18446744073709551616)]
  omega
theorem run_add (hi lo j n : Nat) : run (run hi lo j).1 (run hi lo j).2 n = run hi lo (j + n) := by
  induction n with
  | zero => rfl
  | succ n ih => rw [← Nat.add_assoc]; simp only [run]; rw [ih]
/-- Some draw is taken. -/
theorem taken_once (hi lo n : Nat) (hhi : hi < 18446744073709551616) (hlo : lo < 18446744073709551616) (h1 : 1 ≤ n) (h2 : n ≤ 1000000) : ∃ N, acc n (dr hi lo N) := by
  obtain ⟨N, h⟩ := Pcg.comes_to_one (run hi lo 1).1 (run hi lo 1).2 (Pcg.run_lt hi lo 1 hhi hlo).1 (Pcg.run_lt hi lo 1 hhi hlo).2
  rw [run_add, Nat.add_comm] at h
  exact ⟨N, by unfold dr; rw [h]; exact acc_one n h1 h2⟩
theorem dr_lt (hi lo j : Nat) : dr hi lo j < 18446744073709551616 := Pcg.outp_lt _ _

theorem apart_rb {w : World} {r b hi lo : Nat} (hr : RandAt w r b) (hb : PcgAt w b hi lo) : r ≠ b := by
  intro e
  subst e
  unfold RandAt at hr
  unfold PcgAt at hb
  rw [hr] at hb
  simp at hb
theorem RandAt.but {w w' : World} {r b : Nat} (hr : RandAt w r b) (hrb : r ≠ b) (h : But b w w') : RandAt w' r b := hr.of_block (h.block r hr.lt hrb)

set_option maxHeartbeats 400000 in
theorem u64n_loop (r b hi lo n : Nat) (w : World) (hr : RandAt w r b) (hb : PcgAt w b hi lo) (hhi : hi < 18446744073709551616) (hlo : lo < 18446744073709551616) (hn1 : 1 ≤ n) (hn2 : n ≤ 1000000)
    (hp : n &&& (n - 1) ≠ 0) :
    Calls Try.prog 32 #[.pointer (some ⟨r, 0, none⟩), .int .u64 n] w fun e w' => ∃ j, e = .returned (.int .u64 (ph n (dr hi lo j) : Nat)) ∧ PcgAt w' b (run hi lo (j + 1)).1 (run hi lo (j + 1)).2 ∧ But b w w' ∧
      acc n (dr hi lo j) ∧ ∀ i, i < j → ¬ acc n (dr hi lo i) := by
  have c := hid (rand64_any r b hi lo w hr hb hhi hlo)
  have HR := hid hr
  have HB := hid hb
  clear hr hb
  have e0 : (bits .and .u64 (n : Int) ((n : Int) - 1) == 0) = false := by
    have := bits_and_u64_nat n (n - 1) (by omega) (by omega)
    rw [show ((n : Int) - 1) = ((n - 1 : Nat) : Int) from by omega, this]
    simpa using hp
  have cm := hid fun x hx W => mul_any n x hx (by omega) W
  have hx0 := Pcg.outp_lt (stHi hi lo) (stLo lo)
  have hth : th n < n := Nat.mod_lt _ (by omega)
  obtain ⟨N, hN⟩ := taken_once hi lo n hhi hlo hn1 hn2
  have HN := hid hN
  clear hN
  have D0 : Hid (outp (stHi hi lo) (stLo lo) = dr hi lo 0) := rfl
  go_enter Try.func32, Try.ntmps32
  go_wp2_with fail
  refine c.out.mono ?_
  rintro e w1 ⟨rfl, p1, q1⟩
  have P1 := hid p1
  have Q1 := hid q1
  clear p1 q1
  go_wp2_with fail
  refine (cm.out _ hx0 _).mono ?_
  rintro e w2 ⟨rfl, hw⟩
  subst hw
  rw [D0.out]
  by_cases hlt : pl n (dr hi lo 0) < n
  · go_wp2_with fail
    rw [th_int n hn1 hn2]
    have W0 := hid P1.out
    go_loopg [5, 6] N (fun k h l wr => ∃ j, j + k = N ∧ h = .int .u64 (ph n (dr hi lo j) : Nat) ∧ l = .int .u64 (pl n (dr hi lo j) : Nat) ∧ PcgAt wr b (run hi lo (j + 1)).1 (run hi lo (j + 1)).2 ∧ But b w wr ∧ ∀ i, i < j → ¬ acc n (dr hi lo i))
    case atStart => exact ⟨0, by omega, rfl, rfl, P1.out, Q1.out, fun i hi => by omega⟩
    case round =>
      obtain ⟨j, hj, rfl, rfl, hp1, hq1, hall⟩ := hrel
      have hlts := Pcg.run_lt hi lo (j + 1) hhi hlo
      have c2 := hid (rand64_any r b _ _ wr (HR.out.but (apart_rb HR.out HB.out) hq1) hp1 hlts.1 hlts.2)
      have d2 : Hid (outp (stHi (run hi lo (j + 1)).1 (run hi lo (j + 1)).2) (stLo (run hi lo (j + 1)).2) = dr hi lo (j + 1)) := rfl
      have st2 : Hid ((stHi (run hi lo (j + 1)).1 (run hi lo (j + 1)).2, stLo (run hi lo (j + 1)).2) = run hi lo (j + 1 + 1)) := rfl
      have PP := hid hp1
      have QQ := hid hq1
      have HA := hid hall
      have HJ := hid hj
      clear hp1 hq1 hall hlts hj
      by_cases hrej : pl n (dr hi lo j) < th n
      · go_wp2_with fail
        refine c2.out.mono ?_
        rintro e w3 ⟨rfl, p3, q3⟩
        have P3 := hid p3
        have Q3 := hid q3
        clear p3 q3
        rw [d2.out]
        go_wp2_with fail
        refine (cm.out _ (dr_lt _ _ _) _).mono ?_
        rintro e w4 ⟨rfl, hw⟩
        subst hw
        go_wp2_with fail
        have hjN : j < N := by
          have hne : j ≠ N := by
            intro e
            have hac := HN.out
            rw [← e] at hac
            unfold acc at hac
            omega
          have := HJ.out
          omega
        go_roundg (gk - 1)
        case measure => have := HJ.out; omega
        case rel =>
          refine ⟨j + 1, by have := HJ.out; omega, rfl, rfl, ?_, QQ.out.trans Q3.out, fun i hi => ?_⟩
          · exact P3.out
          · by_cases e : i = j
            · rw [e]; unfold acc; omega
            · exact HA.out i (by omega)
      · go_wp2_with fail
        go_ret
        exact ⟨j, rfl, PP.out, QQ.out, show th n ≤ _ by omega, HA.out⟩
  · go_wp2_with fail
    go_ret
    exact ⟨0, rfl, P1.out, Q1.out, show th n ≤ _ by omega, fun i hi => by omega⟩
end Go.Proofs.Qxb6615739a
