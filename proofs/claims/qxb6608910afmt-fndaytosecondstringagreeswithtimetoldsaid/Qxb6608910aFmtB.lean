/- NewTime, Time.clock and Time.String, at this seat's dump. -/
import Derived.Test.Qxb6608910aFmtS
namespace Go.Proofs.Qxb6608910aFmt
open Go.Extern.Stop Go.Stop Go.Extern Go.RowKit Go.Kit
set_option linter.unusedVariables false
set_option maxRecDepth 100000
attribute [local go_sem] fguard fmtB act3 op3

abbrev bytesB : ByteArray := ⟨#[37, 48, 50, 100, 58, 37, 48, 50, 100, 58, 37, 48, 50, 100]⟩
abbrev psB : List (Nat × UInt8 × Bool) := [(0, 100, false), (1, 100, false), (2, 100, false)]
/-- What fmt is asked by Time.String. -/
def readB (h m s : Int) : List (List UInt8) :=
  [bytesB.data.toList, shape3, digits 8 (h % 2 ^ 64).toNat, shape3, digits 8 (m % 2 ^ 64).toNat, shape3, digits 8 (s % 2 ^ 64).toNat]
theorem rowB (w : World) (g : Nat) :
    (callFunc 21 #[.string bytesB, .slice (some ⟨g, 0, none⟩) 3 3]).run Tryf.prog w = .ok (.row FmtCalls.turnsRow (FmtCalls.save 0 0 (.slice (some ⟨g, 0, none⟩) 3 3) bytesB [] psB)) w := by
  rw [call21]
  go_simp
theorem begunB (F : Interp) (w : World) (g : Nat) (h m s : Int) (hF : F.answers w.tape)
    (c2 : w.cell? ⟨g, 0, none⟩ = some (.iface 3 (.int .i64 h))) (c3 : w.cell? ⟨g, 1, none⟩ = some (.iface 3 (.int .i64 m))) (c4 : w.cell? ⟨g, 2, none⟩ = some (.iface 3 (.int .i64 s))) :
    (FmtCalls.begun #[] #[] (FmtCalls.save 0 0 (.slice (some ⟨g, 0, none⟩) 3 3) bytesB [] psB)).run Tryf.prog w = .ok (.value (.string (FmtStop.textOf (F (FmtCalls.frontName 0) (readB h m s) 0)))) w.drew := by
  have hF' := answers_open hF
  go_simp
  rfl
theorem parseB : (FmtText.parse bytesB.data.toList).map FmtText.glue = some [.verb { widPresent := true, wid := 2, zero := true } 100, .lit [58], .verb { widPresent := true, wid := 2, zero := true } 100, .lit [58], .verb { widPresent := true, wid := 2, zero := true } 100] := by rfl
/-- hh:mm:ss -/
def txtB (h m s : Int) : List UInt8 := FmtText.zeros 2 h ++ (58 :: (FmtText.zeros 2 m ++ (58 :: FmtText.zeros 2 s)))
theorem textB (h m s : Int) (wh : (Lit.int .i64 h).wf = true) (wm : (Lit.int .i64 m).wf = true) (ws : (Lit.int .i64 s).wf = true) : FmtText.text "fmt.Sprintf" (readB h m s) = some (txtB h m s) := by
  have o2 := FmtText.operand_int_at (sh := shape3) (k := .i64) (name := "int".toUTF8.data.toList) rfl (by decide) h wh
  have o3 := FmtText.operand_int_at (sh := shape3) (k := .i64) (name := "int".toUTF8.data.toList) rfl (by decide) m wm
  have o4 := FmtText.operand_int_at (sh := shape3) (k := .i64) (name := "int".toUTF8.data.toList) rfl (by decide) s ws
  unfold readB
  simp only [show (2 : Int) ^ 64 = 18446744073709551616 from rfl]
  rw [FmtText.text_sprintf_glued parseB (FmtText.operands_cons o2 (FmtText.operands_cons o3 (FmtText.operands_cons o4 FmtText.operands_nil)))]
  simp [FmtText.render, FmtText.printArg_d_zero _ _ _ wh, FmtText.printArg_d_zero _ _ _ wm, FmtText.printArg_d_zero _ _ _ ws, txtB]
theorem told_B (F : Interp) (h m s : Int) (bh : 0 ≤ h ∧ h ≤ 100) (bm : 0 ≤ m ∧ m ≤ 100) (bs : 0 ≤ s ∧ s ≤ 100) :
    FmtStop.textOf (F.told (FmtCalls.frontName 0) (readB h m s) 0) = ⟨(txtB h m s).toArray⟩ := by
  have w2 := wf64 (n := h) (by omega)
  have w3 := wf64 (n := m) (by omega)
  have w4 := wf64 (n := s) (by omega)
  apply ba_of_list
  rw [textOf_list]
  refine told_string F (textB _ _ _ w2 w3 w4) ?_
  have l2 := FmtText.zeros_length_le' 2 w2
  have l3 := FmtText.zeros_length_le' 2 w3
  have l4 := FmtText.zeros_length_le' 2 w4
  simp only [txtB, List.length_append, List.length_cons]
  omega

theorem clock_any (t : Int) (w : World) (h0 : 0 ≤ t) (h1 : t ≤ 86400) :
    Calls Tryf.prog 20 #[.agg #[.int .i32 t]] w fun e w' => e = .returned (.tuple #[.int .i64 (t / 3600), .int .i64 (t / 60 % 60), .int .i64 (t % 60)]) ∧ w' = w.alloc (.cells #[.int .i32 t] 23) := by
  go_enter Tryf.func20, Tryf.ntmps20
  go_wp2
  go_ret3
  exact ⟨rfl, rfl⟩
theorem clock_hms (t h m s : Int) (w : World) (ht : t = h * 3600 + m * 60 + s) (bh : 0 ≤ h ∧ h ≤ 23) (bm : 0 ≤ m ∧ m ≤ 59) (bs : 0 ≤ s ∧ s ≤ 59) :
    Calls Tryf.prog 20 #[.agg #[.int .i32 t]] w fun e w' => e = .returned (.tuple #[.int .i64 h, .int .i64 m, .int .i64 s]) ∧ w' = w.alloc (.cells #[.int .i32 t] 23) := by
  have := clock_any t w (by omega) (by omega)
  rw [show t / 3600 = h by omega, show t / 60 % 60 = m by omega, show t % 60 = s by omega] at this
  exact this

theorem three0 (X : World) (v0 v1 v2 : Value) : (X.alloc (.cells #[v0, v1, v2] 20)).cell? ⟨X.heap.size, 0, none⟩ = some v0 := by simp [go_sem]
theorem three1 (X : World) (v0 v1 v2 : Value) : (X.alloc (.cells #[v0, v1, v2] 20)).cell? ⟨X.heap.size, 1, none⟩ = some v1 := by simp [go_sem]
theorem three2 (X : World) (v0 v1 v2 : Value) : (X.alloc (.cells #[v0, v1, v2] 20)).cell? ⟨X.heap.size, 2, none⟩ = some v2 := by simp [go_sem]

theorem time_str (F : Interp) (t h m s : Int) (w : World) (hF : F.told.answers w.tape) (ht : t = h * 3600 + m * 60 + s) (bh : 0 ≤ h ∧ h ≤ 23) (bm : 0 ≤ m ∧ m ≤ 59) (bs : 0 ≤ s ∧ s ≤ 59) :
    Calls Tryf.prog 9 #[.agg #[.int .i32 t]] w fun e w' => e = .returned (.string ⟨(txtB h m s).toArray⟩) ∧ Below w.heap.size w w' := by
  have hrow := rowB
  have HT := hid (told_B F h m s (by omega) (by omega) (by omega))
  have HF := hid hF
  have CC := hid (fun w => clock_hms t h m s w ht bh bm bs)
  clear hF ht
  go_enter Tryf.func9, Tryf.ntmps9
  go_wp2_with fail
  refine (CC.out _).mono ?_
  rintro e w1 ⟨rfl, hw1⟩
  have HF1 : Hid (F.told.answers w1.tape) := by rw [hw1]; exact HF.out
  have HB1 : Hid (Below w.heap.size w w1) := by rw [hw1]; exact ((Below.refl _ _).alloc (Nat.le_refl _) _).alloc (by simp) _
  clear hw1
  go_wp2_with fail
  refine rows_value nextTurns (begunB F.told _ w1.heap.size h m s HF1.out (three0 w1 _ _ _) (three1 w1 _ _ _) (three2 w1 _ _ _)) ?_
  rw [HT.out]
  go_wp2_with fail
  go_ret
  exact ⟨rfl, (HB1.out.alloc HB1.out.size _).drew⟩

theorem newtime_any (h m s : Int) (w : World) (bh : 0 ≤ h ∧ h ≤ 23) (bm : 0 ≤ m ∧ m ≤ 59) (bs : 0 ≤ s ∧ s ≤ 59) :
    Calls Tryf.prog 7 #[.int .i64 h, .int .i64 m, .int .i64 s] w fun e w' => e = .returned (.tuple #[.agg #[.int .i32 (h * 3600 + m * 60 + s)], .nilIface]) ∧ Below w.heap.size w w' := by
  have d1 : decide (h < 0) = false := by simp; omega
  have d2 : decide (24 < h) = false := by simp; omega
  have d3 : decide (m < 0) = false := by simp; omega
  have d4 : decide (59 < m) = false := by simp; omega
  have d5 : decide (s < 0) = false := by simp; omega
  have d6 : decide (59 < s) = false := by simp; omega
  have d7 : (h == 24) = false := by rw [beq_eq_false_iff_ne]; omega
  go_enter Tryf.func7, Tryf.ntmps7
  go_wp2_with fail
  exact bodyPost_ret (v := .tuple #[.agg #[.int .i32 (h * 3600 + m * 60 + s)], .nilIface]) (by simp [results, Tryf.results7, go_sem]) rfl ⟨rfl, (Below.refl _ _).alloc (Nat.le_refl _) _⟩
end Go.Proofs.Qxb6608910aFmt
