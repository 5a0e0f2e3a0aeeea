/- The walks of the law's helpers: ZZextractDayToSecond, pow10, signAgrees. -/
import Derived.Test.Qxb6608910aWb
import Derived.RegionTactic
namespace Go.Proofs.Qxb6608910a
open Go.RowKit
set_option linter.unusedVariables false

theorem short_le (s : Nat) (u : Int) : (short s u).2 ≤ s := by
  induction s generalizing u with
  | zero => simp [short]
  | succ s ih =>
    unfold short
    split
    · have := ih (u.tdiv 10); omega
    · simp

set_option maxHeartbeats 400000 in
theorem zzextract_any (a f : Int) (w : World) (h1 : -315537897600000000 ≤ a) (h2 : a ≤ 315537897600000000) (hf : f = 3 ∨ f = 4 ∨ f = 5 ∨ f = 6) :
    Calls Try.prog 5 #[.int .i64 a, .int .i64 f] w fun e w' => e = .returned (.tuple #[.int .i64 (fld a f).1, .int .i64 (fld a f).2]) ∧ Grown w w' := by
  have ha := as28
  go_enter Try.func5, Try.ntmps5
  go_wp2_with (go_at_call 8; refine (extract_any _ _ _ h1 h2 hf).mono ?_; rintro e w' ⟨rfl, hg⟩)
  go_region
  all_goals
    go_wp2
    go_ret2
    exact ⟨rfl, by repeat (first | exact hg | apply Grown.drew | apply Grown.alloc)⟩

def pw10 (k : Nat) : Int := ((10 ^ k : Nat) : Int)
theorem pw10_le (k : Nat) (h : k ≤ 6) : 1 ≤ pw10 k ∧ pw10 k ≤ 1000000 := by
  have : k = 0 ∨ k = 1 ∨ k = 2 ∨ k = 3 ∨ k = 4 ∨ k = 5 ∨ k = 6 := by omega
  rcases this with rfl | rfl | rfl | rfl | rfl | rfl | rfl <;> decide
theorem pw10_succ (k : Nat) : pw10 (k + 1) = pw10 k * 10 := by unfold pw10; rw [Nat.pow_succ]; omega
theorem ret_int {k : IntKind} {a b : Int} (h : a = b) : Ending.returned (.int k a) = .returned (.int k b) := by rw [h]

theorem pow10_any (n : Nat) (w : World) (hn : n ≤ 6) :
    Calls Try.prog 6 #[.int .i64 n] w fun e w' => e = .returned (.int .i64 (pw10 n)) ∧ w' = w := by
  go_enter Try.func6, Try.ntmps6
  go_wp2
  go_loop [3, 4] (fun p i => ∃ k : Nat, k ≤ n ∧ i = .int .i64 k ∧ p = .int .i64 (pw10 k)) (fun _ i => n - (intOf i).toNat)
  case atStart => exact ⟨0, Nat.zero_le _, rfl, rfl⟩
  case round =>
    obtain ⟨k, hk, rfl, rfl⟩ := hrel
    obtain ⟨b1, b2⟩ := pw10_le k (by omega)
    by_cases hlt : k < n
    · go_wp2
      go_round
      case rel => exact ⟨k + 1, by omega, by go_num, by rw [pw10_succ]⟩
      case measure => simp [intOf]; omega
    · go_wp2
      go_ret
      exact ⟨ret_int (by rw [show k = n from by omega]), rfl⟩

/-- What 'signAgrees' answers. -/
def sgn (v x : Int) : Bool := if 0 < x then decide (0 ≤ v) else if x < 0 then decide (v ≤ 0) else decide (v = 0)
theorem sgn_pos (v x : Int) (h : 0 < x) : sgn v x = decide (0 ≤ v) := by unfold sgn; rw [if_pos h]
theorem sgn_neg (v x : Int) (h : x < 0) : sgn v x = decide (v ≤ 0) := by unfold sgn; rw [if_neg (by omega), if_pos h]
theorem sgn_zero (v x : Int) (h : ¬ 0 < x) (h' : ¬ x < 0) : sgn v x = (v == 0) := by unfold sgn; rw [if_neg h, if_neg h']; exact Bool.eq_iff_iff.2 (by simp)
theorem ret_bool {a b : Bool} (h : a = b) : Ending.returned (.bool a) = .returned (.bool b) := by rw [h]
theorem sign_any (v x : Int) (w : World) :
    Calls Try.prog 7 #[.int .i64 v, .int .i64 x] w fun e w' => e = .returned (.bool (sgn v x)) ∧ w' = w := by
  by_cases h1 : 0 < x
  · go_enter Try.func7, Try.ntmps7
    go_wp2
    go_ret
    exact ⟨ret_bool (sgn_pos v x h1).symm, rfl⟩
  by_cases h2 : x < 0
  · go_enter Try.func7, Try.ntmps7
    go_wp2
    go_ret
    exact ⟨ret_bool (sgn_neg v x h2).symm, rfl⟩
  · go_enter Try.func7, Try.ntmps7
    go_wp2
    go_ret
    exact ⟨ret_bool (sgn_zero v x (by omega) (by omega)).symm, rfl⟩
end Go.Proofs.Qxb6608910a
