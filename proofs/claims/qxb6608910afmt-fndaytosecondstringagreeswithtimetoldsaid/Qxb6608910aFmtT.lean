/- fmt's text at the two formats of this seat, told. -/
import Derived.Test.Qxb6608910aFmtWa
import Derived.Stop.FmtTextKit
import Derived.Stop.Texts
import Derived.Stop.Told
namespace Go.Proofs.Qxb6608910aFmt
open Go.Extern.Stop Go.Stop Go.Extern Go.RowKit

theorem parseA : (FmtText.parse bytesA.data.toList).map FmtText.glue = some [.verb {} 115, .verb {} 100, .lit [32], .verb { widPresent := true, wid := 2, zero := true } 100, .lit [58], .verb { widPresent := true, wid := 2, zero := true } 100, .lit [58], .verb { widPresent := true, wid := 2, zero := true } 100, .lit [46], .verb { widPresent := true, wid := 6, zero := true } 100] := by rfl

/-- sign, days, a blank, hh:mm:ss, a point, six digits. -/
def txtA (sgn : List UInt8) (d h m s u : Int) : List UInt8 :=
  sgn ++ (Lib.itoa d ++ (32 :: (FmtText.zeros 2 h ++ (58 :: (FmtText.zeros 2 m ++ (58 :: (FmtText.zeros 2 s ++ (46 :: FmtText.zeros 6 u))))))))

theorem textA (sgn : ByteArray) (hs : sgn.data.toList.length ≤ 1) (d h m s u : Int) (wd : (Lit.int .i64 d).wf = true) (wh : (Lit.int .i64 h).wf = true) (wm : (Lit.int .i64 m).wf = true) (ws : (Lit.int .i64 s).wf = true) (wu : (Lit.int .i64 u).wf = true) :
    FmtText.text "fmt.Sprintf" (readA sgn d h m s u) = some (txtA sgn.data.toList d h m s u) := by
  have o0 : FmtText.operand shape9 (FmtStop.pack sgn.data.toList) = some (.str "string".toUTF8.data.toList sgn.data.toList) := FmtText.operand_str_at rfl (by decide) _ (by omega)
  have o1 := FmtText.operand_int_at (sh := shape2) (k := .i64) (name := "int64".toUTF8.data.toList) rfl (by decide) d wd
  have o2 := FmtText.operand_int_at (sh := shape3) (k := .i64) (name := "int".toUTF8.data.toList) rfl (by decide) h wh
  have o3 := FmtText.operand_int_at (sh := shape3) (k := .i64) (name := "int".toUTF8.data.toList) rfl (by decide) m wm
  have o4 := FmtText.operand_int_at (sh := shape3) (k := .i64) (name := "int".toUTF8.data.toList) rfl (by decide) s ws
  have o5 := FmtText.operand_int_at (sh := shape3) (k := .i64) (name := "int".toUTF8.data.toList) rfl (by decide) u wu
  unfold readA
  simp only [show (2 : Int) ^ 64 = 18446744073709551616 from rfl]
  rw [FmtText.text_sprintf_glued parseA (FmtText.operands_cons o0 (FmtText.operands_cons o1 (FmtText.operands_cons o2 (FmtText.operands_cons o3 (FmtText.operands_cons o4 (FmtText.operands_cons o5 FmtText.operands_nil))))))]
  simp [FmtText.render, FmtText.printArg_s_str, FmtText.printArg_d _ _ wd, FmtText.printArg_d_zero _ _ _ wh, FmtText.printArg_d_zero _ _ _ wm, FmtText.printArg_d_zero _ _ _ ws, FmtText.printArg_d_zero _ _ _ wu, txtA]
end Go.Proofs.Qxb6608910aFmt
