/- THE PROOF OF 'Rows.FnSamePremiumMatchesSpreadAndAnyCutSaid'. The frame is turned to a slice of structs after the shells that were given for rows over slices of integers. -/
import Derived.Test.Qxb6608960aRows
import Derived.WalkKit
import Derived.ProofKit
import Derived.OpenShut
import Derived.ShutString
import Derived.ChangeOld
import Derived.Below
import Derived.Test.Qxb6608960aLa
import Derived.Test.Qxb6608960aOpen
namespace Go.Proofs.Qxb6608960a.fnSamePremiumMatchesSpreadAndAnyCut
open Go.ChangeShapes Go.WideShapes Go.ChangeAt Go.RowKit
set_option maxRecDepth 10000
set_option linter.unusedVariables false

theorem own : ownKnob Try.prog.godebug = none := by kernel_rfl
theorem laidOut : laidOutB Try.prog = true := by kernel_rfl

/-! ### The short ways -/
theorem out1 (a : Option Addr) (len cap : Nat) (cut : Int) (w : World) (h : 1048576 < len) :
    Calls Try.prog 4 #[.slice a len cap, .int .i64 cut] w fun e w' => e = .returned (.bool true) ∧ Below w.heap.size w w' := by
  have cb := hid (bytes4_big a len cap cut w h)
  go_enter Try.func4, Try.ntmps4
  go_wp2_with fail
  refine cb.out.mono ?_
  rintro e w1 ⟨rfl, hw1⟩
  obtain rfl : w = w1 := hw1.symm
  go_wp2_with fail
  go_ret
  exact ⟨rfl, Below.refl _ _⟩
theorem out2 (a : Option Addr) (len cap : Nat) (cut : Int) (w : World) (h : len ≤ 1048576) (h2 : 32768 < len) :
    Calls Try.prog 4 #[.slice a len cap, .int .i64 cut] w fun e w' => e = .returned (.bool true) ∧ Below w.heap.size w w' := by
  have cb := hid (bytes4_any a len cap cut w h)
  go_enter Try.func4, Try.ntmps4
  go_wp2_with fail
  refine cb.out.mono ?_
  rintro e w1 ⟨rfl, hw1⟩
  obtain rfl : w = w1 := hw1.symm
  go_wp2_with fail
  go_ret
  exact ⟨rfl, Below.refl _ _⟩
theorem out3 (a : Option Addr) (cap : Nat) (cut : Int) (w : World) :
    Calls Try.prog 4 #[.slice a 0 cap, .int .i64 cut] w fun e w' => e = .returned (.bool true) ∧ Below w.heap.size w w' := by
  have cb := hid (bytes4_any a 0 cap cut w (by omega))
  go_enter Try.func4, Try.ntmps4
  go_wp2_with fail
  refine cb.out.mono ?_
  rintro e w1 ⟨rfl, hw1⟩
  obtain rfl : w = w1 := hw1.symm
  go_wp2_with fail
  go_ret
  exact ⟨rfl, Below.refl _ _⟩

/-! ### The walk -/
theorem walk (a : Option Addr) (len cap : Nat) (cut : Int) (w : World) (h : IsRow4 w a len) :
    Calls Try.prog 4 #[.slice a len cap, .int .i64 cut] w fun e w' => e = .returned (.bool true) ∧ Below w.heap.size w w' := by
  by_cases hb : 1048576 < len
  · exact out1 a len cap cut w hb
  by_cases hl : 32768 < len
  · exact out2 a len cap cut w (by omega) hl
  rcases h with rfl | ⟨b, o, Z, rfl, hbw, hr⟩
  · exact out3 a cap cut w
  · by_cases h0 : len = 0
    · subst h0; exact out3 _ cap cut w
    · exact law4_in b o len cap cut Z w (by omega) (by omega) hbw hr

/-! ### The row's step -/
set_option maxRecDepth 100000 in
theorem lifted (os : Os) (started : os.Started) (H : Type) (enc : TypeId × Value → H) :
    ReturnsInHanded {} Try.checked os 4 .any (Rows.fnSamePremiumMatchesSpreadAndAnyCutSpec.pre6 enc Try.prog Try.f4 Rows.fnSamePremiumMatchesSpreadAndAnyCutRow.domain false) (Rows.fnSamePremiumMatchesSpreadAndAnyCutSpec.post enc Try.prog Try.f4 false true false false) := by
  refine returnsInHanded_of_change (C := Try.checked) own started (by kernel_rfl) Try.func4
    (ChangeSpec.witness6 (enc := enc) (C := Try.checked) false ⟨#[], #[.slice none 0 0, .int .i64 0], []⟩ 8 (by kernel_rfl) (by kernel_rfl) (by kernel_rfl) (by kernel_rfl)) ?_
  intro W base args ds gs before hval0 hW hcnd _
  have hval : ∀ (j : Nat) t v, Try.f4.params[j]? = some t → args[j]? = some v → Value.okWide Try.prog W .any base t v := hval0
  have hW' := hW
  obtain ⟨p, q, hA0, hV, rfl, hfz, hnd⟩ := hW
  have hA : DataW.TrodAll enc Try.prog W 0 (fun _ => true) true Try.f4.params.toList args.toList ds p := hA0
  rw [Try.params4] at hA hval
  obtain ⟨v0, vs0, d0, ds0, p0, q0, hargs, rfl, rfl, h0, r0⟩ := trodAll_cons hA
  obtain ⟨v1, vs1, d1, ds1, p1, q1, rfl, rfl, rfl, h1, r1⟩ := trodAll_cons r0
  obtain ⟨rfl, rfl, rfl⟩ := trodAll_nil r1
  obtain rfl : args = #[v0, v1] := by cases args; simp_all
  obtain ⟨rfl, rfl⟩ := trodVars_none hV
  obtain ⟨a0, len0, cap0, rfl⟩ := okWide_slice Try.underlying29 (hval 0 29 v0 rfl rfl)
  have k0 := h0
  have lt0 : ∀ x ∈ p0, x.block < W.heap.size := by obtain ⟨m, hm⟩ := k0; exact DataW.trod_lt m _ _ _ hm
  have w0 : IsRow4 W a0 len0 := by
    obtain ⟨fuel, hf⟩ := h0
    exact row4_of_trod hf
  obtain ⟨a1, rfl, rfl, rfl, w1⟩ := open_int Try.underlying3 (hval 1 3 v1 rfl rfl) h1
  clear hA0 hval0
  refine (walk a0 len0 cap0 a1 W w0).mono fun e W' ⟨he, bel⟩ => ?_
  subst he
  exact ⟨_, rfl, _, _, _, [], _, [], hW', trodAll_mk1 (shut_bool Try.underlying4 _), (trodAll_cons_mk (Below.trod laidOut (by kernel_rfl) (of_decide_eq_true (by kernel_rfl)) k0 bel lt0) (trodAll_cons_mk (shut_int Try.underlying3 w1) trodAll_mk0)), rfl, bel.frame _, fun h => by cases h⟩

theorem over : Rows.fnSamePremiumMatchesSpreadAndAnyCutRow.holds Try.pinned (OpenSpec.ofChange Rows.fnSamePremiumMatchesSpreadAndAnyCutSpec) :=
  OpenClaim.holds_of_wide 4 Try.f4 rfl rfl rfl rfl rfl rfl rfl ⟨rfl, rfl, rfl, rfl, rfl⟩ rfl rfl rfl rfl rfl (by kernel_rfl) Try.func4 (by kernel_rfl)
    (of_decide_eq_true (by kernel_rfl)) (by unfold Func.isWrapper; first | (rw [if_pos (by decide +kernel)]; kernel_rfl) | (rw [if_neg (by decide +kernel)]; exact ⟨rfl, rfl⟩))
    (fun os started H enc _ => lifted os started H enc)

/-- ████ THE STATEMENT ████ -/
theorem proved : Rows.FnSamePremiumMatchesSpreadAndAnyCutSaid := over
#print axioms proved
end Go.Proofs.Qxb6608960a.fnSamePremiumMatchesSpreadAndAnyCut
