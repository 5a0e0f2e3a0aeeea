/- THE PROOF OF 'Rows.FnSamePaidAfterOneInsertionSaid'. The frame is turned to a slice of structs after the shells that were given for rows over slices of integers. -/
import Derived.Test.Qxb6608960aRows
import Derived.WalkKit
import Derived.ProofKit
import Derived.OpenShut
import Derived.ShutString
import Derived.ChangeOld
import Derived.Below
import Derived.Test.Qxb6608960aLb
import Derived.Test.Qxb6608960aOpen
namespace Go.Proofs.Qxb6608960a.fnSamePaidAfterOneInsertion
open Go.ChangeShapes Go.WideShapes Go.ChangeAt Go.RowKit
set_option maxRecDepth 10000
set_option linter.unusedVariables false

theorem own : ownKnob Try.prog.godebug = none := by kernel_rfl
theorem laidOut : laidOutB Try.prog = true := by kernel_rfl

/-! ### The short ways -/
theorem out1 (a : Option Addr) (len cap : Nat) (at_ x0 x1 x2 x3 : Int) (w : World) (h : 1048576 < len) :
    Calls Try.prog 5 #[.slice a len cap, .int .i64 at_, agg4 x0 x1 x2 x3] w fun e w' => e = .returned (.bool true) ∧ Below w.heap.size w w' := by
  go_enter Try.func5, Try.ntmps5
  go_wp2_with fail
  refine (bytes5_big a len cap at_ x0 x1 x2 x3 _ h).mono ?_
  rintro e w1 ⟨rfl, hw1⟩
  have HB : Hid (Below w.heap.size w w1) := by rw [hw1]; exact ((Below.refl _ _).alloc (Nat.le_refl _) _).alloc (by simp) _
  clear hw1
  go_wp2_with fail
  go_ret
  exact ⟨rfl, HB.out⟩
theorem out2 (a : Option Addr) (len cap : Nat) (at_ x0 x1 x2 x3 : Int) (w : World) (h : len ≤ 1048576) (h2 : 32768 < len) :
    Calls Try.prog 5 #[.slice a len cap, .int .i64 at_, agg4 x0 x1 x2 x3] w fun e w' => e = .returned (.bool true) ∧ Below w.heap.size w w' := by
  go_enter Try.func5, Try.ntmps5
  go_wp2_with fail
  refine (bytes5_any a len cap at_ x0 x1 x2 x3 _ h).mono ?_
  rintro e w1 ⟨rfl, hw1⟩
  have HB : Hid (Below w.heap.size w w1) := by rw [hw1]; exact ((Below.refl _ _).alloc (Nat.le_refl _) _).alloc (by simp) _
  clear hw1
  go_wp2_with fail
  go_ret
  exact ⟨rfl, HB.out⟩
theorem out3 (a : Option Addr) (cap : Nat) (at_ x0 x1 x2 x3 : Int) (w : World) :
    Calls Try.prog 5 #[.slice a 0 cap, .int .i64 at_, agg4 x0 x1 x2 x3] w fun e w' => e = .returned (.bool true) ∧ Below w.heap.size w w' := by
  go_enter Try.func5, Try.ntmps5
  go_wp2_with fail
  refine (bytes5_any a 0 cap at_ x0 x1 x2 x3 _ (by omega)).mono ?_
  rintro e w1 ⟨rfl, hw1⟩
  have HB : Hid (Below w.heap.size w w1) := by rw [hw1]; exact ((Below.refl _ _).alloc (Nat.le_refl _) _).alloc (by simp) _
  clear hw1
  go_wp2_with fail
  go_ret
  exact ⟨rfl, HB.out⟩
theorem out4 (a : Option Addr) (len cap : Nat) (at_ x0 x1 x2 x3 : Int) (w : World) (h : len ≤ 32768) (h0 : 0 < len) (h2 : at_ < 0 ∨ (len : Int) < at_) :
    Calls Try.prog 5 #[.slice a len cap, .int .i64 at_, agg4 x0 x1 x2 x3] w fun e w' => e = .returned (.bool true) ∧ Below w.heap.size w w' := by
  have d1 : ((len : Int) == 0) = false := by rw [beq_eq_false_iff_ne]; omega
  have h5 : decide (at_ < 0) = true ∨ (decide (at_ < 0) = false ∧ decide ((len : Int) < at_) = true) := by
    by_cases h : at_ < 0
    · exact .inl (by simpa using h)
    · exact .inr ⟨by simpa using h, by simp; omega⟩
  clear h2
  rcases h5 with h3 | ⟨h3, h4⟩
  all_goals
    go_enter Try.func5, Try.ntmps5
    go_wp2_with fail
    refine (bytes5_any a len cap at_ x0 x1 x2 x3 _ (by omega)).mono ?_
    rintro e w1 ⟨rfl, hw1⟩
    have HB : Hid (Below w.heap.size w w1) := by rw [hw1]; exact ((Below.refl _ _).alloc (Nat.le_refl _) _).alloc (by simp) _
    clear hw1
    go_wp2_with fail
    go_ret
    exact ⟨rfl, HB.out⟩

/-! ### The walk -/
theorem walk (a : Option Addr) (len cap : Nat) (at_ x0 x1 x2 x3 : Int) (w : World) (h : IsRow4 w a len) :
    Calls Try.prog 5 #[.slice a len cap, .int .i64 at_, agg4 x0 x1 x2 x3] w fun e w' => e = .returned (.bool true) ∧ Below w.heap.size w w' := by
  by_cases hb : 1048576 < len
  · exact out1 a len cap at_ x0 x1 x2 x3 w hb
  by_cases hl : 32768 < len
  · exact out2 a len cap at_ x0 x1 x2 x3 w (by omega) hl
  by_cases h0 : len = 0
  · subst h0; exact out3 _ cap at_ x0 x1 x2 x3 w
  by_cases ht : at_ < 0 ∨ (len : Int) < at_
  · exact out4 a len cap at_ x0 x1 x2 x3 w (by omega) (by omega) ht
  obtain ⟨t, rfl⟩ := Int.eq_ofNat_of_zero_le (by omega : 0 ≤ at_)
  rcases h with rfl | ⟨b, o, Z, rfl, hbw, hr⟩
  · exact absurd rfl h0
  by_cases hy : AllEq len 1 Z
  · by_cases hx : x1 = Z 0 1
    · exact law5_yy b o len cap t x0 x1 x2 x3 Z w (by omega) (by omega) hbw hr (by omega) ⟨hy, hx⟩
    · exact law5_yn b o len cap t x0 x1 x2 x3 Z w (by omega) (by omega) hbw hr (by omega) ⟨hy, hx⟩
  · exact law5_nn b o len cap t x0 x1 x2 x3 Z w (by omega) (by omega) hbw hr (by omega) hy

/-- A struct of four integers that came in by value. -/
theorem agg4_of {H : Type} {enc : TypeId × Value → H} {W : World} {base : Nat} {v : Value} {d : DataW H} {p : List MemPlace} (hv : Value.okWide Try.prog W .any base 33 v) (h : DataW.Trod enc Try.prog W 0 (fun _ => true) true 33 v d p) :
    ∃ x0 x1 x2 x3 : Int, v = agg4 x0 x1 x2 x3 := by
  obtain ⟨cs, rfl, hsz⟩ := okWide_struct Try.underlying33 hv
  have hsz4 : cs.size = 4 := hsz.trans cells33
  obtain ⟨fuel, hf⟩ := h
  have h4 := four_of_trod (cs := cs.toList) (by simpa [Value.cells] using hf)
  obtain ⟨z0, e0⟩ := h4.2 0 (by omega)
  obtain ⟨z1, e1⟩ := h4.2 1 (by omega)
  obtain ⟨z2, e2⟩ := h4.2 2 (by omega)
  obtain ⟨z3, e3⟩ := h4.2 3 (by omega)
  refine ⟨z0, z1, z2, z3, ?_⟩
  congr 1
  apply Array.ext_getElem?
  intro i
  rw [← Array.getElem?_toList]
  have hi : i = 0 ∨ i = 1 ∨ i = 2 ∨ i = 3 ∨ 4 ≤ i := by omega
  rcases hi with rfl | rfl | rfl | rfl | hi
  · rw [e0]; rfl
  · rw [e1]; rfl
  · rw [e2]; rfl
  · rw [e3]; rfl
  · rw [List.getElem?_eq_none (by rw [h4.1]; exact hi), Array.getElem?_eq_none (by simpa using hi)]

/-! ### The row's step -/
set_option maxRecDepth 100000 in
theorem lifted (os : Os) (started : os.Started) (H : Type) (enc : TypeId × Value → H) :
    ReturnsInHanded {} Try.checked os 5 .any (Rows.fnSamePaidAfterOneInsertionSpec.pre6 enc Try.prog Try.f5 Rows.fnSamePaidAfterOneInsertionRow.domain false) (Rows.fnSamePaidAfterOneInsertionSpec.post enc Try.prog Try.f5 false true false false) := by
  refine returnsInHanded_of_change (C := Try.checked) own started (by kernel_rfl) Try.func5
    (ChangeSpec.witness6 (enc := enc) (C := Try.checked) false ⟨#[], #[.slice none 0 0, .int .i64 0, .agg #[.int .i64 0, .int .i64 0, .int .i64 0, .int .i64 0]], []⟩ 8 (by kernel_rfl) (by kernel_rfl) (by kernel_rfl) (by kernel_rfl)) ?_
  intro W base args ds gs before hval0 hW hcnd _
  have hval : ∀ (j : Nat) t v, Try.f5.params[j]? = some t → args[j]? = some v → Value.okWide Try.prog W .any base t v := hval0
  have hW' := hW
  obtain ⟨p, q, hA0, hV, rfl, hfz, hnd⟩ := hW
  have hA : DataW.TrodAll enc Try.prog W 0 (fun _ => true) true Try.f5.params.toList args.toList ds p := hA0
  rw [Try.params5] at hA hval
  obtain ⟨v0, vs0, d0, ds0, p0, q0, hargs, rfl, rfl, h0, r0⟩ := trodAll_cons hA
  obtain ⟨v1, vs1, d1, ds1, p1, q1, rfl, rfl, rfl, h1, r1⟩ := trodAll_cons r0
  obtain ⟨v2, vs2, d2, ds2, p2, q2, rfl, rfl, rfl, h2, r2⟩ := trodAll_cons r1
  obtain ⟨rfl, rfl, rfl⟩ := trodAll_nil r2
  obtain rfl : args = #[v0, v1, v2] := by cases args; simp_all
  obtain ⟨rfl, rfl⟩ := trodVars_none hV
  obtain ⟨a0, len0, cap0, rfl⟩ := okWide_slice Try.underlying29 (hval 0 29 v0 rfl rfl)
  have k0 := h0
  have lt0 : ∀ x ∈ p0, x.block < W.heap.size := by obtain ⟨m, hm⟩ := k0; exact DataW.trod_lt m _ _ _ hm
  have w0 : IsRow4 W a0 len0 := by
    obtain ⟨fuel, hf⟩ := h0
    exact row4_of_trod hf
  obtain ⟨a1, rfl, rfl, rfl, w1⟩ := open_int Try.underlying3 (hval 1 3 v1 rfl rfl) h1
  have k2 := h2
  have lt2 : ∀ x ∈ p2, x.block < W.heap.size := by obtain ⟨m, hm⟩ := k2; exact DataW.trod_lt m _ _ _ hm
  obtain ⟨x0, x1, x2, x3, rfl⟩ := agg4_of (hval 2 33 v2 rfl rfl) h2
  clear hA0 hval0
  refine (walk a0 len0 cap0 a1 x0 x1 x2 x3 W w0).mono fun e W' ⟨he, bel⟩ => ?_
  subst he
  exact ⟨_, rfl, _, _, _, [], _, [], hW', trodAll_mk1 (shut_bool Try.underlying4 _), (trodAll_cons_mk (Below.trod laidOut (by kernel_rfl) (of_decide_eq_true (by kernel_rfl)) k0 bel lt0) (trodAll_cons_mk (shut_int Try.underlying3 w1) (trodAll_cons_mk (Below.trod laidOut (by kernel_rfl) (of_decide_eq_true (by kernel_rfl)) k2 bel lt2) trodAll_mk0))), rfl, bel.frame _, fun h => by cases h⟩

theorem over : Rows.fnSamePaidAfterOneInsertionRow.holds Try.pinned (OpenSpec.ofChange Rows.fnSamePaidAfterOneInsertionSpec) :=
  OpenClaim.holds_of_wide 5 Try.f5 rfl rfl rfl rfl rfl rfl rfl ⟨rfl, rfl, rfl, rfl, rfl⟩ rfl rfl rfl rfl rfl (by kernel_rfl) Try.func5 (by kernel_rfl)
    (of_decide_eq_true (by kernel_rfl)) (by unfold Func.isWrapper; first | (rw [if_pos (by decide +kernel)]; kernel_rfl) | (rw [if_neg (by decide +kernel)]; exact ⟨rfl, rfl⟩))
    (fun os started H enc _ => lifted os started H enc)

/-- ████ THE STATEMENT ████ -/
theorem proved : Rows.FnSamePaidAfterOneInsertionSaid := over
#print axioms proved
end Go.Proofs.Qxb6608960a.fnSamePaidAfterOneInsertion
