/- The walks of extractDayToSecond and the law's small helpers. -/
import Derived.Test.Qxb6608910aWa
import Derived.Deep.RegionWith
namespace Go.Proofs.Qxb6608910a
open Go.RowKit
set_option linter.unusedVariables false

theorem as34 (v : Value) (w : World) : (Instr.typeAssert (.iface 34 v) 31 34 false).run Try.prog w = .ok v w := by kernel_rfl
theorem as28 (v : Value) (w : World) : (Instr.typeAssert (.iface 28 v) 31 28 true).run Try.prog w = .ok (.tuple #[v, .bool true]) w := by kernel_rfl

theorem wrap_small (n : Int) (h1 : -9223372036854775808 ≤ n) (h2 : n ≤ 9223372036854775807) : IntKind.i64.wrap n = n := by rw [IntKind.wrap_i64]; omega
theorem short0 (u : Int) (w : World) (h1 : -315537897600000000 ≤ u) (h2 : u ≤ 315537897600000000) :
    Calls Try.prog 9 #[.int .i64 u, .int .i64 0] w fun e w' => e = .returned (.agg #[.int .i64 (short 0 u).1, .int .i64 (short 0 u).2]) ∧ ∃ c, w' = w.alloc (.cells c 28) :=
  short_any u 0 w h1 h2 (by omega)
theorem short6 (u : Int) (w : World) (h1 : -315537897600000000 ≤ u) (h2 : u ≤ 315537897600000000) :
    Calls Try.prog 9 #[.int .i64 u, .int .i64 6] w fun e w' => e = .returned (.agg #[.int .i64 (short 6 u).1, .int .i64 (short 6 u).2]) ∧ ∃ c, w' = w.alloc (.cells c 28) :=
  short_any u 6 w h1 h2 (by omega)

/-- What the field f of a span of a microseconds is, before its zeros are dropped, and its scale. -/
def fieldU (a : Int) (f : Int) : Int :=
  if f = 3 then a.tdiv 86400000000 else if f = 4 then (a.tdiv 3600000000).tmod 24 else if f = 5 then (a.tdiv 60000000).tmod 60 else (a.tdiv 1000000).tmod 60 * 1000000 + a.tmod 1000000
def fieldS (f : Int) : Nat := if f = 6 then 6 else 0
def fld (a f : Int) : Int × Nat := short (fieldS f) (fieldU a f)

set_option maxHeartbeats 400000 in
theorem extract_any (a f : Int) (w : World) (h1 : -315537897600000000 ≤ a) (h2 : a ≤ 315537897600000000) (hf : f = 3 ∨ f = 4 ∨ f = 5 ∨ f = 6) :
    Calls Try.prog 8 #[.iface 34 (.agg #[.int .i64 a]), .int .i64 f] w fun e w' => e = .returned (.iface 28 (.agg #[.int .i64 (fld a f).1, .int .i64 (fld a f).2])) ∧ Grown w w' := by
  have t1 := tdiv_cases a 86400000000
  have t2 := tdiv_cases a 3600000000
  have t3 := tdiv_cases (a.tdiv 3600000000) 24
  have t4 := tdiv_cases a 60000000
  have t5 := tdiv_cases (a.tdiv 60000000) 60
  have t6 := tdiv_cases a 1000000
  have t7 := tdiv_cases (a.tdiv 1000000) 60
  rcases hf with rfl | rfl | rfl | rfl
  · have b : -315537897600000000 ≤ a.tdiv 86400000000 ∧ a.tdiv 86400000000 ≤ 315537897600000000 := by omega
    obtain ⟨b1, b2⟩ := b
    clear t1 t2 t3 t4 t5 t6 t7
    have ha := as34
    go_enter Try.func8, Try.ntmps8
    go_wp2_with (first | (go_at_call 10; refine (days_any _ _ h1 h2).mono ?_; rintro e w' ⟨rfl, rfl⟩) | (go_at_call 9; refine (short0 _ _ b1 b2).mono ?_; rintro e w' ⟨rfl, c, rfl⟩))
    go_ret
    exact ⟨rfl, by repeat (first | exact Grown.refl _ | apply Grown.drew | apply Grown.alloc)⟩
  · have b : -315537897600000000 ≤ (a.tdiv 3600000000).tmod 24 ∧ (a.tdiv 3600000000).tmod 24 ≤ 315537897600000000 := by omega
    obtain ⟨b1, b2⟩ := b
    clear t1 t2 t3 t4 t5 t6 t7
    have ha := as34
    go_enter Try.func8, Try.ntmps8
    go_wp2_with (first | (go_at_call 11; refine (hours_any _ _ h1 h2).mono ?_; rintro e w' ⟨rfl, rfl⟩) | (go_at_call 9; refine (short0 _ _ b1 b2).mono ?_; rintro e w' ⟨rfl, c, rfl⟩))
    go_ret
    exact ⟨rfl, by repeat (first | exact Grown.refl _ | apply Grown.drew | apply Grown.alloc)⟩
  · have b : -315537897600000000 ≤ (a.tdiv 60000000).tmod 60 ∧ (a.tdiv 60000000).tmod 60 ≤ 315537897600000000 := by omega
    obtain ⟨b1, b2⟩ := b
    clear t1 t2 t3 t4 t5 t6 t7
    have ha := as34
    go_enter Try.func8, Try.ntmps8
    go_wp2_with (first | (go_at_call 12; refine (minutes_any _ _ h1 h2).mono ?_; rintro e w' ⟨rfl, rfl⟩) | (go_at_call 9; refine (short0 _ _ b1 b2).mono ?_; rintro e w' ⟨rfl, c, rfl⟩))
    go_ret
    exact ⟨rfl, by repeat (first | exact Grown.refl _ | apply Grown.drew | apply Grown.alloc)⟩
  · have b : -315537897600000000 ≤ (a.tdiv 1000000).tmod 60 * 1000000 + a.tmod 1000000 ∧ (a.tdiv 1000000).tmod 60 * 1000000 + a.tmod 1000000 ≤ 315537897600000000 := by omega
    obtain ⟨b1, b2⟩ := b
    have c : -60 ≤ (a.tdiv 1000000).tmod 60 ∧ (a.tdiv 1000000).tmod 60 ≤ 60 := by omega
    obtain ⟨c1, c2⟩ := c
    have d : -1000000 ≤ a.tmod 1000000 ∧ a.tmod 1000000 ≤ 1000000 := by omega
    obtain ⟨d1, d2⟩ := d
    clear t1 t2 t3 t4 t5 t6 t7
    have ha := as34
    have hw : IntKind.i64.wrap (IntKind.i64.wrap ((a.tdiv 1000000).tmod 60 * 1000000) + a.tmod 1000000) = (a.tdiv 1000000).tmod 60 * 1000000 + a.tmod 1000000 := by
      rw [wrap_small ((a.tdiv 1000000).tmod 60 * 1000000) (by omega) (by omega), wrap_small _ (by omega) (by omega)]
    have HW : Hid (IntKind.i64.wrap (IntKind.i64.wrap ((a.tdiv 1000000).tmod 60 * 1000000) + a.tmod 1000000) = (a.tdiv 1000000).tmod 60 * 1000000 + a.tmod 1000000) := hw
    clear hw
    go_enter Try.func8, Try.ntmps8
    go_wp2
    go_region_with (first | (go_at_call 13; refine (seconds_any _ _ h1 h2).mono ?_; rintro e w' ⟨rfl, rfl⟩) | (go_at_call 14; refine (micros_any _ _).mono ?_; rintro e w' ⟨rfl, rfl⟩) | (go_at_call 9; rw [HW.out]; refine (short6 _ _ b1 b2).mono ?_; rintro e w' ⟨rfl, c, rfl⟩))
    all_goals
      go_wp2
      go_ret
      exact ⟨rfl, by repeat (first | exact Grown.refl _ | apply Grown.drew | apply Grown.alloc)⟩

end Go.Proofs.Qxb6608910a
