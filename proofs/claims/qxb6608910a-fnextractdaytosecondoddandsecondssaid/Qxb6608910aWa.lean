/- The walks of tempora's fields of a DayToSecond, at this seat's dump. -/
import Derived.Test.Qxb6608910aProg
import Derived.WalkKit
import Derived.WalkSpells
import Derived.RowKit3
import Derived.Outline
namespace Go.Proofs.Qxb6608910a
open Go.RowKit

theorem days_any (a : Int) (w : World) (h1 : -315537897600000000 ≤ a) (h2 : a ≤ 315537897600000000) :
    Calls Try.prog 10 #[.agg #[.int .i64 a]] w fun e w' => e = .returned (.int .i64 (a.tdiv 86400000000)) ∧ w' = w.alloc (.cells #[.int .i64 a] 34) := by
  go_enter Try.func10, Try.ntmps10
  go_wp2
  go_ret
  exact ⟨rfl, rfl⟩
theorem hours_any (a : Int) (w : World) (h1 : -315537897600000000 ≤ a) (h2 : a ≤ 315537897600000000) :
    Calls Try.prog 11 #[.agg #[.int .i64 a]] w fun e w' => e = .returned (.int .i64 ((a.tdiv 3600000000).tmod 24)) ∧ w' = w.alloc (.cells #[.int .i64 a] 34) := by
  go_enter Try.func11, Try.ntmps11
  go_wp2
  go_ret
  exact ⟨rfl, rfl⟩
theorem minutes_any (a : Int) (w : World) (h1 : -315537897600000000 ≤ a) (h2 : a ≤ 315537897600000000) :
    Calls Try.prog 12 #[.agg #[.int .i64 a]] w fun e w' => e = .returned (.int .i64 ((a.tdiv 60000000).tmod 60)) ∧ w' = w.alloc (.cells #[.int .i64 a] 34) := by
  go_enter Try.func12, Try.ntmps12
  go_wp2
  go_ret
  exact ⟨rfl, rfl⟩
theorem seconds_any (a : Int) (w : World) (h1 : -315537897600000000 ≤ a) (h2 : a ≤ 315537897600000000) :
    Calls Try.prog 13 #[.agg #[.int .i64 a]] w fun e w' => e = .returned (.int .i64 ((a.tdiv 1000000).tmod 60)) ∧ w' = w.alloc (.cells #[.int .i64 a] 34) := by
  go_enter Try.func13, Try.ntmps13
  go_wp2
  go_ret
  exact ⟨rfl, rfl⟩
theorem micros_any (a : Int) (w : World) :
    Calls Try.prog 14 #[.agg #[.int .i64 a]] w fun e w' => e = .returned (.int .i64 (a.tmod 1000000)) ∧ w' = w.alloc (.cells #[.int .i64 a] 34) := by
  go_enter Try.func14, Try.ntmps14
  go_wp2
  go_ret
  exact ⟨rfl, rfl⟩

/-- What 'shortestNumber' computes. -/
def short : Nat → Int → Int × Nat
  | 0, u => (u, 0)
  | n + 1, u => if u.tmod 10 = 0 then short n (u.tdiv 10) else (u, n + 1)

theorem tdiv_cases (v d : Int) : (0 ≤ v ∧ v.tdiv d = v / d ∧ v.tmod d = v % d) ∨ (v < 0 ∧ v.tdiv d = -((-v) / d) ∧ v.tmod d = -((-v) % d)) := by
  by_cases h : 0 ≤ v
  · exact .inl ⟨h, Int.tdiv_eq_ediv_of_nonneg h, Int.tmod_eq_emod_of_nonneg h⟩
  · refine .inr ⟨by omega, ?_, ?_⟩
    · rw [← Int.tdiv_eq_ediv_of_nonneg (by omega : 0 ≤ -v), Int.neg_tdiv, Int.neg_neg]
    · rw [← Int.tmod_eq_emod_of_nonneg (by omega : 0 ≤ -v), Int.neg_tmod, Int.neg_neg]

theorem ret_agg {a b c d : Int} (h1 : a = c) (h2 : b = d) : Ending.returned (.agg #[.int .i64 a, .int .i64 b]) = .returned (.agg #[.int .i64 c, .int .i64 d]) := by rw [h1, h2]

set_option maxHeartbeats 400000 in
theorem short_any (u : Int) (s : Nat) (w : World) (h1 : -315537897600000000 ≤ u) (h2 : u ≤ 315537897600000000) (hs : s ≤ 6) :
    Calls Try.prog 9 #[.int .i64 u, .int .i64 s] w fun e w' => e = .returned (.agg #[.int .i64 (short s u).1, .int .i64 (short s u).2]) ∧ ∃ c, w' = w.alloc (.cells c 28) := by
  go_enter Try.func9, Try.ntmps9
  go_wp2
  go_loop [0, 1] (fun t i => ∃ (k : Nat) (v : Int), k ≤ s ∧ -315537897600000000 ≤ v ∧ v ≤ 315537897600000000 ∧ t = .int .i64 v ∧ i = .int .i64 k ∧ Hid (short k v = short s u)) (fun _ i => (intOf i).toNat)
  case atStart => exact ⟨s, u, Nat.le_refl _, h1, h2, rfl, rfl, rfl⟩
  case round =>
    obtain ⟨k, v, hk, hv1, hv2, rfl, rfl, H⟩ := hrel
    cases k with
    | zero =>
      go_wp2
      exact bodyPost_ret (v := .agg #[.int .i64 v, .int .i64 0]) (by simp [results, Try.results9, go_sem]) rfl ⟨ret_agg (by rw [← H.out]; rfl) (by rw [← H.out]; rfl), _, rfl⟩
    | succ k =>
      by_cases hm : v.tmod 10 = 0
      · have hb : (v.tmod 10 == 0) = true := by simp [hm]
        have hsh : Hid (short k (v.tdiv 10) = short s u) := by
          have := H.out
          simp only [short, if_pos hm] at this
          exact this
        have hd := tdiv_cases v 10
        go_wp2
        exact ⟨⟨k, v.tdiv 10, by omega, by omega, by omega, rfl, rfl, hsh⟩, by simp [intOf]⟩
      · have hb : (v.tmod 10 == 0) = false := by simp [hm]
        go_wp2
        refine bodyPost_ret (v := .agg #[.int .i64 v, .int .i64 (k + 1)]) (by simp [results, Try.results9, go_sem]) rfl ⟨?_, _, rfl⟩
        have := H.out
        simp only [short, if_neg hm] at this
        exact ret_agg (by rw [← this]) (by rw [← this]; simp)
end Go.Proofs.Qxb6608910a
