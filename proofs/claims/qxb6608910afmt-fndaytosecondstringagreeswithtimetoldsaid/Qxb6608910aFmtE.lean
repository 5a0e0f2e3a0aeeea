/- ZZextractDayToSecond at DAY, at this seat's dump. -/
import Derived.Test.Qxb6608910aFmtU
namespace Go.Proofs.Qxb6608910aFmt
open Go.RowKit
set_option linter.unusedVariables false

theorem as52 (v : Value) (w : World) : (Instr.typeAssert (.iface 52 v) 57 52 false).run Tryf.prog w = .ok v w := by kernel_rfl
theorem as54 (v : Value) (w : World) : (Instr.typeAssert (.iface 54 v) 57 54 true).run Tryf.prog w = .ok (.tuple #[v, .bool true]) w := by kernel_rfl

theorem short0 (u : Int) (w : World) :
    Calls Tryf.prog 33 #[.int .i64 u, .int .i64 0] w fun e w' => e = .returned (.agg #[.int .i64 u, .int .i64 0]) ∧ Below w.heap.size w w' := by
  go_enter Tryf.func33, Tryf.ntmps33
  go_wp2_with fail
  go_loopg [0, 1] 0 (fun gn t i wr => t = .int .i64 u ∧ i = .int .i64 0 ∧ wr = w.alloc (Obj.cells #[Value.int IntKind.i64 0, Value.int IntKind.i64 0] 54))
  case atStart => exact ⟨rfl, rfl, rfl⟩
  case round =>
    obtain ⟨rfl, rfl, rfl⟩ := hrel
    go_wp2_with fail
    exact bodyPost_ret (v := .agg #[.int .i64 u, .int .i64 0]) (by simp [results, Tryf.results33, go_sem]) rfl ⟨rfl, (Below.refl _ _).alloc (Nat.le_refl _) _⟩

theorem below_chain {a b c : World} (h : Below a.heap.size a b) (k : Below b.heap.size b c) : Below a.heap.size a c := h.trans (k.mono h.size)

theorem extract3 (a : Int) (w : World) (h1 : -315537897600000000 ≤ a) (h2 : a ≤ 315537897600000000) :
    Calls Tryf.prog 23 #[.iface 52 (.agg #[.int .i64 a]), .int .i64 3] w fun e w' => e = .returned (.iface 54 (.agg #[.int .i64 (a.tdiv 86400000000), .int .i64 0])) ∧ Below w.heap.size w w' := by
  have ha := as52
  go_enter Tryf.func23, Tryf.ntmps23
  go_wp2_with fail
  refine (days_any _ _ h1 h2).mono ?_
  rintro e w1 ⟨rfl, hw1⟩
  have HB1 : Hid (Below w.heap.size w w1) := by rw [hw1]; exact ((Below.refl _ _).alloc (Nat.le_refl _) _).alloc (by simp) _
  clear hw1
  go_wp2_with fail
  refine (short0 _ _).mono ?_
  rintro e w2 ⟨rfl, hb2⟩
  have HB2 := hid (below_chain HB1.out hb2)
  clear hb2
  go_wp2_with fail
  go_ret
  exact ⟨rfl, HB2.out⟩

theorem zzextract3 (a : Int) (w : World) (h1 : -315537897600000000 ≤ a) (h2 : a ≤ 315537897600000000) :
    Calls Tryf.prog 13 #[.int .i64 a, .int .i64 3] w fun e w' => e = .returned (.tuple #[.int .i64 (a.tdiv 86400000000), .int .i64 0]) ∧ Below w.heap.size w w' := by
  have ha := as54
  have CT := hid (extract3 a w h1 h2)
  clear h1 h2
  go_enter Tryf.func13, Tryf.ntmps13
  go_wp2_with fail
  refine CT.out.mono ?_
  rintro e w1 ⟨rfl, hb1⟩
  have HB1 := hid hb1
  have HS1 := hid hb1.size
  clear hb1
  go_wp2_with fail
  go_region
  all_goals
    go_wp2_with fail
    go_ret2
    exact ⟨rfl, (HB1.out.alloc HS1.out _).drew⟩
end Go.Proofs.Qxb6608910aFmt
