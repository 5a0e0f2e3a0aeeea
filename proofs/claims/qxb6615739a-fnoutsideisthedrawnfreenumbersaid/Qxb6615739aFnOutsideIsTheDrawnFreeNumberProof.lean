/-
  THE SHELL OF A PROOF OF 'Rows.FnOutsideIsTheDrawnFreeNumberSaid' ('example.com/murmurant/murmurant/zzlaws_root_b1.FnOutsideIsTheDrawnFreeNumber'), WRITTEN BY PROGRAM (proof-skeleton.mjs, third state) off the guide's own print for that function. Not trusted: Lean checks it.
  The walk is filled in; all else is the shell as it was given.
-/
import Derived.Test.Qxb6615739aRows
import Derived.WalkKit
import Derived.ProofKit
import Derived.OpenShut
import Derived.ShutString
import Derived.ChangeOld
import Derived.Below
import Derived.Test.Qxb6615739aDrawnN
namespace Go.Proofs.Qxb6615739a.fnOutsideIsTheDrawnFreeNumber
open Go.ChangeShapes Go.WideShapes Go.ChangeAt Go.RowKit
open Go.ChangeMaps (open_string shut_string)
set_option maxRecDepth 10000
set_option linter.unusedVariables false

theorem own : ownKnob Try.prog.godebug = none := by kernel_rfl
theorem laidOut : laidOutB Try.prog = true := by kernel_rfl

/-- WHAT THE WALK IS TOLD OF A SLICE OF INTEGERS THAT CAME IN: it is nil; or it leads to a row of 'cap' cells, the numbers 'zs' (the first 'len' are its elements, the rest its spare room), each fitting its kind. -/
def IsRow (k : IntKind) (w : World) (a : Option Addr) (len cap : Nat) (zs : List Int) : Prop :=
  (a = none ∧ len = 0 ∧ cap = 0 ∧ zs = []) ∨
  ∃ x, a = some x ∧ len ≤ cap ∧ cap ≤ maxLen ∧ zs.length = cap ∧ (∀ i, i < zs.length → w.cell? (x.add i) = some (.int k (zs.getD i 0))) ∧ ∀ n ∈ zs, (Lit.int k n).wf = true

/-! ### The short ways -/
theorem law_out1 (s1 s2 : Nat) (m but : Int) (a : Option Addr) (len cap : Nat) (w : World) (h : 1048576 < len) :
    Calls Try.prog 3 #[.int .u64 s1, .int .u64 s2, .int .i64 m, .slice a len cap, .int .i64 but] w fun e w' => e = .returned (.bool true) ∧ Below w.heap.size w w' := by
  have cb := hid (bytes_no s1 s2 m but a len cap w h)
  go_enter Try.func3, Try.ntmps3
  go_wp2_with fail
  refine cb.out.mono ?_
  rintro e w1 ⟨rfl, hw1⟩
  obtain rfl : w = w1 := hw1.symm
  go_wp2_with fail
  go_ret
  exact ⟨rfl, Below.refl _ _⟩
theorem law_out2 (s1 s2 : Nat) (m but : Int) (a : Option Addr) (len cap : Nat) (w : World) (h : len ≤ 1048576) (h2 : 131072 < len) :
    Calls Try.prog 3 #[.int .u64 s1, .int .u64 s2, .int .i64 m, .slice a len cap, .int .i64 but] w fun e w' => e = .returned (.bool true) ∧ Below w.heap.size w w' := by
  have cb := hid (bytes_any s1 s2 m but a len cap w h)
  go_enter Try.func3, Try.ntmps3
  go_wp2_with fail
  refine cb.out.mono ?_
  rintro e w1 ⟨rfl, hw1⟩
  obtain rfl : w = w1 := hw1.symm
  go_wp2_with fail
  go_ret
  exact ⟨rfl, Below.refl _ _⟩
theorem law_out3 (s1 s2 : Nat) (m but : Int) (a : Option Addr) (len cap : Nat) (w : World) (h : len ≤ 131072) (h2 : m < 1 ∨ 65536 < m) :
    Calls Try.prog 3 #[.int .u64 s1, .int .u64 s2, .int .i64 m, .slice a len cap, .int .i64 but] w fun e w' => e = .returned (.bool true) ∧ Below w.heap.size w w' := by
  have cb := hid (bytes_any s1 s2 m but a len cap w (by omega))
  have h5 : m < 1 ∨ (¬ m < 1 ∧ 65536 < m) := by omega
  clear h2
  rcases h5 with h3 | ⟨h3, h4⟩
  all_goals
    go_enter Try.func3, Try.ntmps3
    go_wp2_with fail
    refine cb.out.mono ?_
    rintro e w1 ⟨rfl, hw1⟩
    obtain rfl : w = w1 := hw1.symm
    go_wp2_with fail
    go_ret
    exact ⟨rfl, Below.refl _ _⟩
theorem law_out4 (s1 s2 : Nat) (m but : Int) (a : Option Addr) (len cap : Nat) (w : World) (h : len ≤ 131072) (h1 : 1 ≤ m) (h2 : m ≤ 65536) (h3 : but < 0 ∨ m ≤ but) :
    Calls Try.prog 3 #[.int .u64 s1, .int .u64 s2, .int .i64 m, .slice a len cap, .int .i64 but] w fun e w' => e = .returned (.bool true) ∧ Below w.heap.size w w' := by
  have cb := hid (bytes_any s1 s2 m but a len cap w (by omega))
  have h5 : but < 0 ∨ (¬ but < 0 ∧ m ≤ but) := by omega
  clear h3
  rcases h5 with h3 | ⟨h3, h4⟩
  all_goals
    go_enter Try.func3, Try.ntmps3
    go_wp2_with fail
    refine cb.out.mono ?_
    rintro e w1 ⟨rfl, hw1⟩
    obtain rfl : w = w1 := hw1.symm
    go_wp2_with fail
    go_ret
    exact ⟨rfl, Below.refl _ _⟩

/-! ### STEP 1: THE WALK: the Go text returns true, AND WRITES NOTHING THAT WAS THERE: 'Below w.heap.size w w'' (Derived/Below.lean: '.refl', '.alloc', '.drew', '.setCell' at a new block, '.trans'). Open each 'IsRow' by 'rcases' AHEAD of 'go_enter'; part every test ahead of the walk. -/
theorem walk (a0 : Int) (a1 : Int) (a2 : Int) (a3 : Option Addr) (len3 cap3 : Nat) (z3 : List Int) (a4 : Int) (w : World) (w0 : (Lit.int .u64 a0).wf = true) (w1 : (Lit.int .u64 a1).wf = true) (w2 : (Lit.int .i64 a2).wf = true) (w3 : IsRow .i64 w a3 len3 cap3 z3) (w4 : (Lit.int .i64 a4).wf = true) :
    Calls Try.prog 3 #[.int .u64 a0, .int .u64 a1, .int .i64 a2, .slice a3 len3 cap3, .int .i64 a4] w fun e w' => e = .returned (.bool true) ∧ Below w.heap.size w w' := by
  have u64 : ∀ a : Int, (Lit.int .u64 a).wf = true → 0 ≤ a ∧ a ≤ 18446744073709551615 := fun a h => bounds_u64 h
  obtain ⟨s1, rfl⟩ := Int.eq_ofNat_of_zero_le (u64 a0 w0).1
  obtain ⟨s2, rfl⟩ := Int.eq_ofNat_of_zero_le (u64 a1 w1).1
  have b1 := (u64 _ w0).2
  have b2 := (u64 _ w1).2
  clear w0 w1 u64 w2 w4
  by_cases hb : 1048576 < len3
  · exact law_out1 s1 s2 a2 a4 a3 len3 cap3 w hb
  by_cases hl : 131072 < len3
  · exact law_out2 s1 s2 a2 a4 a3 len3 cap3 w (by omega) hl
  by_cases hm : a2 < 1 ∨ 65536 < a2
  · exact law_out3 s1 s2 a2 a4 a3 len3 cap3 w (by omega) hm
  by_cases hbt : a4 < 0 ∨ a2 ≤ a4
  · exact law_out4 s1 s2 a2 a4 a3 len3 cap3 w (by omega) (by omega) (by omega) hbt
  obtain ⟨M, rfl⟩ := Int.eq_ofNat_of_zero_le (by omega : 0 ≤ a2)
  rcases w3 with ⟨rfl, rfl, rfl, rfl⟩ | ⟨x, rfl, hlc, hcm, hz, hcell, hwz⟩
  · exact law_none s1 s2 M a4 w (by omega) (by omega) (by omega) (by omega) (by omega) (by omega)
  · refine law_some s1 s2 M a4 x len3 cap3 (z3.take len3) w (by omega) (by omega) ⟨by rw [List.length_take]; omega, fun h0 => ?_⟩ (by omega) (by omega) (by omega) (by omega) (by omega)
    obtain ⟨tb, off, e, hc⟩ := ints_at hcell (by omega)
    refine ⟨tb, off, e, ?_, fun i hi => ?_⟩
    · have h := hc 0 (by omega)
      by_cases hlt : tb < w.heap.size
      · exact hlt
      · simp [World.cell?, Array.getElem?_eq_none (show w.heap.size ≤ tb by omega)] at h
    · rw [hc i (by omega)]
      simp [List.getD, List.getElem?_take_of_lt hi]

/-! ### THE ROW's STEP: WRITTEN OUT: LEAVE IT -/
set_option maxRecDepth 100000 in
theorem lifted (os : Os) (started : os.Started) (H : Type) (enc : TypeId × Value → H) :
    ReturnsInHanded {} Try.checked os 3 .any (Rows.fnOutsideIsTheDrawnFreeNumberSpec.pre6 enc Try.prog Try.f3 Rows.fnOutsideIsTheDrawnFreeNumberRow.domain false) (Rows.fnOutsideIsTheDrawnFreeNumberSpec.post enc Try.prog Try.f3 false true false false) := by
  refine returnsInHanded_of_change (C := Try.checked) own started (by kernel_rfl) Try.func3
    (ChangeSpec.witness6 (enc := enc) (C := Try.checked) false ⟨#[], #[.int .u64 0, .int .u64 0, .int .i64 0, .slice none 0 0, .int .i64 0], []⟩ 8 (by kernel_rfl) (by kernel_rfl) (by kernel_rfl) (by kernel_rfl)) ?_
  intro W base args ds gs before hval0 hW hcnd _
  have hval : ∀ (j : Nat) t v, Try.f3.params[j]? = some t → args[j]? = some v → Value.okWide Try.prog W .any base t v := hval0
  have hW' := hW
  obtain ⟨p, q, hA0, hV, rfl, hfz, hnd⟩ := hW
  have hA : DataW.TrodAll enc Try.prog W 0 (fun _ => true) true Try.f3.params.toList args.toList ds p := hA0
  rw [Try.params3] at hA hval
  obtain ⟨v0, vs0, d0, ds0, p0, q0, hargs, rfl, rfl, h0, r0⟩ := trodAll_cons hA
  obtain ⟨v1, vs1, d1, ds1, p1, q1, rfl, rfl, rfl, h1, r1⟩ := trodAll_cons r0
  obtain ⟨v2, vs2, d2, ds2, p2, q2, rfl, rfl, rfl, h2, r2⟩ := trodAll_cons r1
  obtain ⟨v3, vs3, d3, ds3, p3, q3, rfl, rfl, rfl, h3, r3⟩ := trodAll_cons r2
  obtain ⟨v4, vs4, d4, ds4, p4, q4, rfl, rfl, rfl, h4, r4⟩ := trodAll_cons r3
  obtain ⟨rfl, rfl, rfl⟩ := trodAll_nil r4
  obtain rfl : args = #[v0, v1, v2, v3, v4] := by cases args; simp_all
  obtain ⟨rfl, rfl⟩ := trodVars_none hV
  obtain ⟨a0, rfl, rfl, rfl, w0⟩ := open_int Try.underlying22 (hval 0 22 v0 rfl rfl) h0
  obtain ⟨a1, rfl, rfl, rfl, w1⟩ := open_int Try.underlying22 (hval 1 22 v1 rfl rfl) h1
  obtain ⟨a2, rfl, rfl, rfl, w2⟩ := open_int Try.underlying3 (hval 2 3 v2 rfl rfl) h2
  obtain ⟨a3, len3, cap3, rfl⟩ := okWide_slice Try.underlying23 (hval 3 23 v3 rfl rfl)
  have k3 := h3
  have lt3 : ∀ x ∈ p3, x.block < W.heap.size := by obtain ⟨m, hm⟩ := k3; exact DataW.trod_lt m _ _ _ hm
  obtain ⟨z3, w3⟩ : ∃ zs, IsRow .i64 W a3 len3 cap3 zs := by
    obtain ⟨fuel, hf⟩ := h3
    rcases open_ints Try.underlying23 Try.underlying3 (by kernel_rfl) hf with ⟨hcs, _⟩ | ⟨x, l, c, zs, hcs, _, hl, hm, hz, _, hcell, hwz⟩
    · simp [Value.cells] at hcs
      obtain ⟨rfl, rfl, rfl⟩ := hcs
      exact ⟨[], .inl ⟨rfl, rfl, rfl, rfl⟩⟩
    · simp [Value.cells] at hcs
      obtain ⟨rfl, rfl, rfl⟩ := hcs
      exact ⟨zs, .inr ⟨_, rfl, hl, hm, by simpa using hz, hcell, hwz⟩⟩
  obtain ⟨a4, rfl, rfl, rfl, w4⟩ := open_int Try.underlying3 (hval 4 3 v4 rfl rfl) h4
  clear hA0 hval0
  refine (walk a0 a1 a2 a3 len3 cap3 z3 a4 W w0 w1 w2 w3 w4).mono fun e W' ⟨he, bel⟩ => ?_
  subst he
  exact ⟨_, rfl, _, _, _, [], _, [], hW', trodAll_mk1 (shut_bool Try.underlying4 _), (trodAll_cons_mk (shut_int Try.underlying22 w0) (trodAll_cons_mk (shut_int Try.underlying22 w1) (trodAll_cons_mk (shut_int Try.underlying3 w2) (trodAll_cons_mk (Below.trod laidOut (by kernel_rfl) (of_decide_eq_true (by kernel_rfl)) k3 bel lt3) (trodAll_cons_mk (shut_int Try.underlying3 w4) trodAll_mk0))))), rfl, bel.frame _, fun h => by cases h⟩

theorem over : Rows.fnOutsideIsTheDrawnFreeNumberRow.holds Try.pinned (OpenSpec.ofChange Rows.fnOutsideIsTheDrawnFreeNumberSpec) :=
  OpenClaim.holds_of_wide 3 Try.f3 rfl rfl rfl rfl rfl rfl rfl ⟨rfl, rfl, rfl, rfl, rfl⟩ rfl rfl rfl rfl rfl (by kernel_rfl) Try.func3 (by kernel_rfl)
    (of_decide_eq_true (by kernel_rfl)) (by unfold Func.isWrapper; first | (rw [if_pos (by decide +kernel)]; kernel_rfl) | (rw [if_neg (by decide +kernel)]; exact ⟨rfl, rfl⟩))
    (fun os started H enc _ => lifted os started H enc)

/-- ████ THE STATEMENT ████ -/
theorem proved : Rows.FnOutsideIsTheDrawnFreeNumberSaid := over
#print axioms proved
end Go.Proofs.Qxb6615739a.fnOutsideIsTheDrawnFreeNumber
