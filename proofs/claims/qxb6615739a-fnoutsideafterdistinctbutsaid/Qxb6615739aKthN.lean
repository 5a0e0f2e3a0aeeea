/- kthFree at a nil slice, and ZZoutside, at this seat's dump. -/
import Derived.Test.Qxb6615739aOutN
namespace Go.Proofs.Qxb6615739a
open Go.RowKit
open Free (fre)
set_option linter.unusedVariables false

set_option maxHeartbeats 1000000 in
theorem kth_none (m but k : Int) (zs : List Int) (hzs : zs = []) (X : Int) (w : World)
    (hm1 : 1 ≤ m) (hm2 : m ≤ 65536) (hb0 : 0 ≤ but) (hbm : but < m) (hf : Fits zs m but) (hX : Kth zs m but k X) :
    Calls Try.prog 12 #[.int .i64 m, .slice none 0 0, .int .i64 but, .int .i64 k] w fun e w' => e = .returned (.int .i64 X) ∧ Below w.heap.size w w' := by
  obtain ⟨M, rfl⟩ := Int.eq_ofNat_of_zero_le (by omega : 0 ≤ m)
  have hmk := run_make_row' (P := Try.prog) 33 4 (.bool false) 1 Try.underlying33 info4 rfl .i64 .i64 M (by omega) (by omega)
  have HF := hid hf
  have HX := hid hX
  have HZ := hid hzs
  clear hf hX hzs
  go_enter Try.func12, Try.ntmps12
  go_wp2_with fail
  go_loopg [18] 0 (fun gn i wr => i = .int .i64 0 ∧ Below w.heap.size w wr ∧ wr.rowIs w.heap.size 4 M (markF zs))
  case atStart => exact ⟨rfl, (Below.refl _ _).alloc (Nat.le_refl _) _, (World.rowIs_made w (.bool false) M 4).congr (fun i _ => by rw [HZ.out]; simp [markF])⟩
  case round =>
    obtain ⟨rfl, hb, hrow⟩ := hrel
    · have HB := hid hb
      have HR := hid hrow
      clear hb hrow
      go_wp2_with fail
      obtain ⟨x0, x1, x2, x3, x4⟩ := HX.out
      have X4 := hid x4
      have X3 := hid x3
      have X2 := hid x2
      clear x4 x3 x2
      obtain ⟨Y, rfl⟩ := Int.eq_ofNat_of_zero_le x0
      have hnd := hid (fits_all HF.out)
      have hnn := hid (fits_nn HF.out hb0)
      go_loop [12, 13] (fun c i => ∃ x : Nat, x ≤ Y ∧ i = .int .i64 x ∧ c = .int .i64 (fre (zs ++ [but]) x)) (fun _ i => Y + 1 - (intOf i).toNat)
      case atStart => exact ⟨0, Nat.zero_le _, rfl, by rw [show ((0 : Nat) : Int) = 0 from rfl, fre_zero _ hnn.out]⟩
      case round =>
        obtain ⟨x, hx, rfl, rfl⟩ := hrel
        have hxM : x < M := by omega
        have hmc : wr.cell? ⟨w.heap.size, x, none⟩ = some (.bool (decide ((x : Int) ∈ zs))) := HR.out.cell hxM
        obtain ⟨n1, n2⟩ := fre_nn _ hnd.out hnn.out x
        have hs := hid (Free.fre_succ _ hnd.out (x : Int))
        by_cases hin : (x : Int) ∈ zs ++ [but]
        · have hne : x ≠ Y := by
            intro e
            rw [e] at hin
            rcases List.mem_append.1 hin with h | h
            · exact X3.out h
            · rw [List.mem_singleton] at h; exact X2.out h
          have hs2 := hs.out
          rw [if_pos hin] at hs2
          have HS2 := hid hs2
          clear hs2
          by_cases hbut : (x : Int) = but
          · have hbb : ((x : Int) == but) = true := by simp [hbut]
            clear hin hbut
            generalize fre (zs ++ [but]) (x : Int) = c at *
            go_wp2_with fail
            go_round
            case rel => exact ⟨x + 1, by omega, by go_num, by rw [show ((x + 1 : Nat) : Int) = (x : Int) + 1 from by omega, HS2.out]; simp⟩
            case measure => simp [intOf]; omega
          · have hbb : ((x : Int) == but) = false := by simp [hbut]
            have hz : (x : Int) ∈ zs := by
              rcases List.mem_append.1 hin with h | h
              · exact h
              · rw [List.mem_singleton] at h; exact absurd h hbut
            rw [decide_eq_true hz] at hmc
            clear hin hbut hz
            generalize fre (zs ++ [but]) (x : Int) = c at *
            go_wp2_with fail
            go_round
            case rel => exact ⟨x + 1, by omega, by go_num, by rw [show ((x + 1 : Nat) : Int) = (x : Int) + 1 from by omega, HS2.out]; simp⟩
            case measure => simp [intOf]; omega
        · have hs2 := hs.out
          rw [if_neg hin] at hs2
          have HS2 := hid hs2
          clear hs2
          have hz : (x : Int) ∉ zs := fun h => hin (List.mem_append.2 (.inl h))
          have hbut : (x : Int) ≠ but := fun h => hin (List.mem_append.2 (.inr (by rw [List.mem_singleton]; exact h)))
          have hbb : ((x : Int) == but) = false := by simp [hbut]
          rw [decide_eq_false hz] at hmc
          by_cases he : x = Y
          · subst he
            have hcc : (fre (zs ++ [but]) (x : Int) == k) = true := by simp [X4.out]
            clear hin hz hbut
            generalize fre (zs ++ [but]) (x : Int) = c at *
            go_wp2_with fail
            go_ret
            exact ⟨rfl, HB.out⟩
          · have hlt2 := Free.fre_lt _ hnd.out (x : Int) (Y : Int) hin (by omega)
            rw [X4.out] at hlt2
            have hcc : (fre (zs ++ [but]) (x : Int) == k) = false := by simp; omega
            clear hin hz hbut
            generalize fre (zs ++ [but]) (x : Int) = c at *
            go_wp2_with fail
            go_round
            case rel => exact ⟨x + 1, by omega, by go_num, by rw [show ((x + 1 : Nat) : Int) = (x : Int) + 1 from by omega, HS2.out]⟩
            case measure => simp [intOf]; omega

theorem zzout_some (s r b hi lo rd : Nat) (mk : Value) (M : Nat) (but : Int) (tb len cp : Nat) (zs : List Int) (w : World)
    (hs : SamAt w s r mk rd (.slice none 0 0)) (hr : RandAt w r b) (hb : PcgAt w b hi lo) (hhi : hi < 18446744073709551616) (hlo : lo < 18446744073709551616)
    (htb : tb < w.heap.size) (hc : ∀ i, i < len → w.cell? ⟨tb, i, none⟩ = some (.int .i64 (zs.getD i 0))) (hl : zs.length = len)
    (hlen : len ≤ 131072) (hm1 : 1 ≤ M) (hm2 : M ≤ 65536) :
    Calls Try.prog 10 #[.pointer (some ⟨s, 0, none⟩), .int .i64 M, .slice (some ⟨tb, 0, none⟩) len cp, .int .i64 but] w (OutPost s b hi lo M len (zs ++ [but]) w) := by
  have c := hid (out_some s r b hi lo rd mk M but tb len cp zs w hs hr hb hhi hlo htb hc hl hlen hm1 hm2)
  clear hs hr hb hc hl
  go_enter Try.func10, Try.ntmps10
  go_wp2_with fail
  refine c.out.mono ?_
  intro e w' h
  obtain ⟨h1, h2⟩ := h
  have H1 := hid h1
  rcases h2 with ⟨h3, rfl⟩ | ⟨h3, v, hi', lo', h4, h5, rfl⟩
  · clear h1
    go_wp2_with fail
    go_ret2
    exact ⟨H1.out, .inl ⟨h3, rfl⟩⟩
  · have H5 := hid h5
    clear h1 h5
    go_wp2_with fail
    go_ret2
    exact ⟨H1.out, .inr ⟨h3, v, hi', lo', h4, H5.out, rfl⟩⟩

theorem zzout_none (s r b hi lo rd : Nat) (mk : Value) (M : Nat) (but : Int) (w : World)
    (hs : SamAt w s r mk rd (.slice none 0 0)) (hr : RandAt w r b) (hb : PcgAt w b hi lo) (hhi : hi < 18446744073709551616) (hlo : lo < 18446744073709551616)
    (hm1 : 1 ≤ M) (hm2 : M ≤ 65536) :
    Calls Try.prog 10 #[.pointer (some ⟨s, 0, none⟩), .int .i64 M, .slice none 0 0, .int .i64 but] w (OutPost s b hi lo M 0 [but] w) := by
  have c := hid (out_none s r b hi lo rd mk M but w hs hr hb hhi hlo hm1 hm2)
  clear hs hr hb
  go_enter Try.func10, Try.ntmps10
  go_wp2_with fail
  refine c.out.mono ?_
  intro e w' h
  obtain ⟨h1, h2⟩ := h
  have H1 := hid h1
  rcases h2 with ⟨h3, rfl⟩ | ⟨h3, v, hi', lo', h4, h5, rfl⟩
  · clear h1
    go_wp2_with fail
    go_ret2
    exact ⟨H1.out, .inl ⟨h3, rfl⟩⟩
  · have H5 := hid h5
    clear h1 h5
    go_wp2_with fail
    go_ret2
    exact ⟨H1.out, .inr ⟨h3, v, hi', lo', h4, H5.out, rfl⟩⟩
end Go.Proofs.Qxb6615739a
