/- The walk of 'FnOutsideIsTheDrawnFreeNumber' at a nil slice, at this seat's dump. -/
import Derived.Test.Qxb6615739aDrawn
namespace Go.Proofs.Qxb6615739a
open Go.RowKit
open Free (fre)
set_option linter.unusedVariables false

set_option maxRecDepth 10000 in
set_option maxHeartbeats 1000000 in
theorem law_none (s1 s2 M : Nat) (but : Int) (w : World) (h1 : s1 < 18446744073709551616) (h2 : s2 < 18446744073709551616)
    (hm1 : 1 ≤ M) (hm2 : M ≤ 65536) (hb0 : 0 ≤ but) (hbm : but < M) :
    Calls Try.prog 3 #[.int .u64 s1, .int .u64 s2, .int .i64 M, .slice none 0 0, .int .i64 but] w fun e w' => e = .returned (.bool true) ∧ Below w.heap.size w w' := by
  have cb := hid (bytes_any s1 s2 M but none 0 0 w (by omega))
  have cf := hid (fits_none M but none 0 w (by omega) (by omega))
  have hnn := fun W => run_neq_slice_nil_any (P := Try.prog) W 23 3 none 0 0 0 0 Try.underlying23
  go_enter Try.func3, Try.ntmps3
  go_wp2_with fail
  refine cb.out.mono ?_
  rintro e w1 ⟨rfl, hw1⟩
  obtain rfl : w = w1 := hw1.symm
  go_wp2_with fail
  refine cf.out.mono ?_
  intro e w2 hpost
  obtain ⟨v0, rfl, hfit, hbel⟩ := hpost
  have HB2 := hid hbel
  clear hbel
  cases v0 with
  | false =>
    clear hfit
    go_wp2_with fail
    go_ret
    exact ⟨rfl, HB2.out⟩
  | true =>
    have HF := hid (hfit rfl)
    clear hfit
    go_wp2_with fail
    refine (new_any s1 s2 _).mono ?_
    rintro e w4 ⟨rfl, hw4⟩
    obtain ⟨sm4, rm4, pm4, b4⟩ := made_new s1 s2 w2 w4 hw4
    have co := hid (zzout_none (w2.heap.size + 2) (w2.heap.size + 1) w2.heap.size s1 s2 0 (.slice none 0 0) M but w4 sm4 rm4 pm4 h1 h2 hm1 hm2)
    have B4 := hid b4
    clear sm4 rm4 pm4 b4 hw4
    go_wp2_with fail
    refine co.out.mono ?_
    intro e w5 hpost
    obtain ⟨hb5, hcase⟩ := hpost
    have bel5 : Below w.heap.size w w5 := by
      have z2 := HB2.out.size
      have z4 := B4.out.size
      exact (HB2.out.trans (B4.out.mono (by omega))).trans (hb5.below (by omega) (by simp; omega))
    have B5 := hid bel5
    clear hb5 bel5
    rcases hcase with ⟨hle, rfl⟩ | ⟨hgt, v, hi', lo', hv, hd, rfl⟩
    · have hfree : ((M : Int) - 1 == 0) = true := by simp; omega
      go_wp2_with fail
      go_ret
      exact ⟨rfl, B5.out⟩
    · have hfree : ((M : Int) - 1 == 0) = false := by simp; omega
      have HD := hid hd
      have HV := hid hv
      clear hd hv
      have hK := hid (kth_of [] M 0 v but rfl HF.out hb0 HV.out)
      rw [List.nil_append] at hK
      generalize Free.bump (srt [but]) v = X at *
      go_wp2_with fail
      rw [show ((M : Int) - 1) = ((M - (0 + 1) : Nat) : Int) from by omega]
      refine (draw_any s1 s2 (M - (0 + 1)) _ h1 h2 (by omega) (by omega)).mono ?_
      rintro e w6 ⟨v', hi2, lo2, rfl, hv', hd', hb6⟩
      obtain rfl : v = v' := HD.out.det hd'
      have ck := hid (kth_none M but v [] rfl X w6 (by omega) (by omega) hb0 hbm HF.out hK.out)
      have B6 := hid (B5.out.trans (hb6.mono B5.out.size))
      clear hd' hb6 hv'
      go_wp2_with fail
      refine ck.out.mono ?_
      rintro e w7 ⟨rfl, hb7⟩
      have B7 := hid (B6.out.trans (hb7.mono B6.out.size))
      clear hb7
      go_wp2_with fail
      go_ret
      exact ⟨rfl, B7.out⟩
end Go.Proofs.Qxb6615739a
