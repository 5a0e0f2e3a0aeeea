/- (*rand.Rand).IntN, at this seat's dump: a draw as a relation. -/
import Derived.Test.Qxb6615739aRandD
namespace Go.Proofs.Qxb6615739a
open Go.RowKit
open Pcg (stHi stLo outp run)
set_option linter.unusedVariables false

/-- From the state (hi, lo) the draw below n gives v and leaves the state (hi', lo'). -/
def Draws (hi lo n v hi' lo' : Nat) : Prop :=
  (n &&& (n - 1) = 0 ∧ hi' = stHi hi lo ∧ lo' = stLo lo ∧ v = (outp (stHi hi lo) (stLo lo) &&& (n - 1))) ∨
  (n &&& (n - 1) ≠ 0 ∧ ∃ j, hi' = (run hi lo (j + 1)).1 ∧ lo' = (run hi lo (j + 1)).2 ∧ v = ph n (dr hi lo j) ∧ acc n (dr hi lo j) ∧ ∀ i, i < j → ¬ acc n (dr hi lo i))

/-- A draw is determined. -/
theorem Draws.det {hi lo n v hi' lo' u hi'' lo'' : Nat} (h : Draws hi lo n v hi' lo') (k : Draws hi lo n u hi'' lo'') : v = u := by
  rcases h with ⟨a, _, _, h⟩ | ⟨a, j, _, _, h, hj, hall⟩ <;> rcases k with ⟨c, _, _, k⟩ | ⟨c, i, _, _, k, hi, kall⟩
  · rw [h, k]
  · exact absurd a c
  · exact absurd c a
  · have : j = i := by
      rcases Nat.lt_trichotomy j i with l | l | l
      · exact absurd hj (kall j l)
      · exact l
      · exact absurd hi (hall i l)
    rw [h, k, this]

theorem Draws.lt {hi lo n v hi' lo' : Nat} (h : Draws hi lo n v hi' lo') (hn : 1 ≤ n) : v < n := by
  rcases h with ⟨_, _, _, h⟩ | ⟨_, j, _, _, h, _, _⟩
  · have := Nat.and_le_right (n := outp (stHi hi lo) (stLo lo)) (m := n - 1)
    omega
  · rw [h]
    unfold ph
    refine Nat.div_lt_of_lt_mul ?_
    have := dr_lt hi lo j
    exact Nat.mul_lt_mul_of_pos_right this hn

theorem Draws.state {hi lo n v hi' lo' : Nat} (h : Draws hi lo n v hi' lo') : hi' < 18446744073709551616 ∧ lo' < 18446744073709551616 := by
  rcases h with ⟨_, h1, h2, _⟩ | ⟨_, j, h1, h2, _⟩
  · rw [h1, h2]; exact ⟨Pcg.stHi_lt _ _, Pcg.stLo_lt _⟩
  · rw [h1, h2]; exact ⟨Pcg.stHi_lt _ _, Pcg.stLo_lt _⟩

theorem u64n_any (r b hi lo n : Nat) (w : World) (hr : RandAt w r b) (hb : PcgAt w b hi lo) (hhi : hi < 18446744073709551616) (hlo : lo < 18446744073709551616) (hn1 : 1 ≤ n) (hn2 : n ≤ 1000000) :
    Calls Try.prog 32 #[.pointer (some ⟨r, 0, none⟩), .int .u64 n] w fun e w' => ∃ v hi' lo' : Nat, e = .returned (.int .u64 v) ∧ Draws hi lo n v hi' lo' ∧ PcgAt w' b hi' lo' ∧ But b w w' := by
  by_cases hp : n &&& (n - 1) = 0
  · refine (u64n_pow r b hi lo n w hr hb hhi hlo hn1 hn2 hp).mono ?_
    rintro e w' ⟨he, h1, h2⟩
    exact ⟨_, _, _, he, .inl ⟨hp, rfl, rfl, rfl⟩, h1, h2⟩
  · refine (u64n_loop r b hi lo n w hr hb hhi hlo hn1 hn2 hp).mono ?_
    rintro e w' ⟨j, he, h1, h2, h3, h4⟩
    exact ⟨_, _, _, he, .inr ⟨hp, j, rfl, rfl, rfl, h3, h4⟩, h1, h2⟩

set_option maxHeartbeats 400000 in
theorem intn_any (r b hi lo n : Nat) (w : World) (hr : RandAt w r b) (hb : PcgAt w b hi lo) (hhi : hi < 18446744073709551616) (hlo : lo < 18446744073709551616) (hn1 : 1 ≤ n) (hn2 : n ≤ 1000000) :
    Calls Try.prog 27 #[.pointer (some ⟨r, 0, none⟩), .int .i64 n] w fun e w' => ∃ v hi' lo' : Nat, e = .returned (.int .i64 v) ∧ v < n ∧ Draws hi lo n v hi' lo' ∧ PcgAt w' b hi' lo' ∧ But b w w' := by
  have c := hid (u64n_any r b hi lo n w hr hb hhi hlo hn1 hn2)
  clear hr hb
  go_enter Try.func27, Try.ntmps27
  go_wp2_with fail
  refine c.out.mono ?_
  rintro e w1 ⟨v, hi', lo', rfl, hd, hp, hq⟩
  have hv := hd.lt hn1
  have HD := hid hd
  have HP := hid hp
  have HQ := hid hq
  clear hd hp hq
  go_wp2_with fail
  go_ret
  exact ⟨v, hi', lo', rfl, hv, HD.out, HP.out, HQ.out⟩
end Go.Proofs.Qxb6615739a
