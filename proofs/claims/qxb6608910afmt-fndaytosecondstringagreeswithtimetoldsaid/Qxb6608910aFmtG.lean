/- fmt.Sprintf at DayToSecond.String's format, as a step. -/
import Derived.Test.Qxb6608910aFmtF
import Derived.Below
namespace Go.Proofs.Qxb6608910aFmt
open Go.Extern.Stop Go.Stop Go.Extern Go.RowKit
set_option maxRecDepth 100000
attribute [local go_sem] fguard fmtA fmtB act2 act3 act9 op2 op3 op9

abbrev bytesA : ByteArray := ⟨#[37, 115, 37, 100, 32, 37, 48, 50, 100, 58, 37, 48, 50, 100, 58, 37, 48, 50, 100, 46, 37, 48, 54, 100]⟩
abbrev psA : List (Nat × UInt8 × Bool) := [(0, 115, false), (1, 100, false), (2, 100, false), (3, 100, false), (4, 100, false), (5, 100, false)]
/-- What fmt is asked by DayToSecond.String. -/
def readA (sgn : ByteArray) (d h m s u : Int) : List (List UInt8) :=
  [bytesA.data.toList, shape9, FmtStop.pack sgn.data.toList, shape2, digits 8 (d % 2 ^ 64).toNat, shape3, digits 8 (h % 2 ^ 64).toNat, shape3, digits 8 (m % 2 ^ 64).toNat, shape3, digits 8 (s % 2 ^ 64).toNat, shape3, digits 8 (u % 2 ^ 64).toNat]

theorem rowA (w : World) (g : Nat) :
    (callFunc 21 #[.string bytesA, .slice (some ⟨g, 0, none⟩) 6 6]).run Tryf.prog w = .ok (.row FmtCalls.turnsRow (FmtCalls.save 0 0 (.slice (some ⟨g, 0, none⟩) 6 6) bytesA [] psA)) w := by
  rw [call21]
  go_simp

theorem begunA (F : Interp) (w : World) (g : Nat) (sgn : ByteArray) (d h m s u : Int) (hF : F.answers w.tape)
    (c0 : w.cell? ⟨g, 0, none⟩ = some (.iface 9 (.string sgn))) (c1 : w.cell? ⟨g, 1, none⟩ = some (.iface 2 (.int .i64 d))) (c2 : w.cell? ⟨g, 2, none⟩ = some (.iface 3 (.int .i64 h)))
    (c3 : w.cell? ⟨g, 3, none⟩ = some (.iface 3 (.int .i64 m))) (c4 : w.cell? ⟨g, 4, none⟩ = some (.iface 3 (.int .i64 s))) (c5 : w.cell? ⟨g, 5, none⟩ = some (.iface 3 (.int .i64 u))) :
    (FmtCalls.begun #[] #[] (FmtCalls.save 0 0 (.slice (some ⟨g, 0, none⟩) 6 6) bytesA [] psA)).run Tryf.prog w = .ok (.value (.string (FmtStop.textOf (F (FmtCalls.frontName 0) (readA sgn d h m s u) 0)))) w.drew := by
  have hF' := answers_open hF
  go_simp
  rfl

/-- fmt.Sprintf at that format, at a step of a region that draws its order. -/
theorem step_sprA {ops : Array Oper} {o : Oper} {a : Act} {K : Act → World → Prop} {Q : Exit → Act → World → Prop} {E : Prop} (F : Interp) (w : World) (g : Nat) (sgn : ByteArray) (d h m s u : Int) (hF : F.answers w.tape)
    (hgd : o.guard = none) (f x : Operand) (ho : o.op = .call { callee := .value (.func 21), args := #[f, x], argTypes := #[9, 64] }) (hf : a.eval f = .string bytesA) (hx : a.eval x = .slice (some ⟨g, 0, none⟩) 6 6)
    (c0 : w.cell? ⟨g, 0, none⟩ = some (.iface 9 (.string sgn))) (c1 : w.cell? ⟨g, 1, none⟩ = some (.iface 2 (.int .i64 d))) (c2 : w.cell? ⟨g, 2, none⟩ = some (.iface 3 (.int .i64 h)))
    (c3 : w.cell? ⟨g, 3, none⟩ = some (.iface 3 (.int .i64 m))) (c4 : w.cell? ⟨g, 4, none⟩ = some (.iface 3 (.int .i64 s))) (c5 : w.cell? ⟨g, 5, none⟩ = some (.iface 3 (.int .i64 u)))
    (hK : K (a.put o.dst (.string (FmtStop.textOf (F (FmtCalls.frontName 0) (readA sgn d h m s u) 0)))) w.drew) :
    if Region.wanted o (yielded ops a.tmps) = true then Oper.wp Tryf.prog o a w K Q else E := by
  have hw : Region.wanted o (yielded ops a.tmps) = true := by simp [Region.wanted, hgd]
  rw [if_pos hw]
  unfold Oper.wp execOp
  simp only [ho, resolve, invoke, Sem.run_bind, List.map_toArray, List.map_cons, List.map_nil, hf, hx]
  change Oper.upon Tryf.prog o a K Q ((callFunc 21 #[.string bytesA, .slice (some ⟨g, 0, none⟩) 6 6]).run Tryf.prog w)
  rw [rowA]
  exact rows_value nextTurns (begunA F w g sgn d h m s u hF c0 c1 c2 c3 c4 c5) hK
end Go.Proofs.Qxb6608910aFmt
