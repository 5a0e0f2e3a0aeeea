/- The walk of 'FnOutsideAfterDistinctBut', at this seat's dump. -/
import Derived.Test.Qxb6615739aDistB
import Derived.Test.Qxb6615739aDrawn
namespace Go.Proofs.Qxb6615739a
open Go.RowKit
set_option linter.unusedVariables false

/-- The row as a list. -/
def lst (f : Nat → Int) (k : Nat) : List Int := (List.range k).map f
theorem lst_len (f : Nat → Int) (k : Nat) : (lst f k).length = k := by simp [lst]
theorem lst_get (f : Nat → Int) (k i : Nat) (h : i < k) : (lst f k).getD i 0 = f i := by
  unfold lst
  rw [List.getD, List.getElem?_map, List.getElem?_range h]
  rfl
theorem lst_succ (f : Nat → Int) (c : Nat) : lst f (c + 1) = lst f c ++ [f c] := by simp [lst, List.range_succ]
theorem lst_mem (f : Nat → Int) (c : Nat) (t : Int) : t ∈ lst f c ↔ ∃ j, j < c ∧ f j = t := by simp [lst]
theorem lst_fits {f : Nat → Int} {k : Nat} {M but : Int} (h : Good f k M) (hb : ∀ i, i < k → f i ≠ but) : Fits (lst f k) M but := by
  refine ⟨fun t ht => ?_, ?_⟩
  · obtain ⟨j, hj, rfl⟩ := (lst_mem f k t).1 ht
    exact ⟨(h.1 j hj).1, (h.1 j hj).2, hb j hj⟩
  · rw [List.nodup_iff_pairwise_ne, List.pairwise_iff_getElem]
    intro i j hi hj hij e
    rw [lst_len] at hi hj
    have e' : f i = f j := by simpa [lst] using e
    have := h.2 i j hi hj e'
    omega
theorem lst_new {f : Nat → Int} {k : Nat} {M : Int} (h : Good f k M) {c : Nat} (hc : c < k) : f c ∉ lst f c := by
  intro hm
  obtain ⟨j, hj, e⟩ := (lst_mem f c _).1 hm
  have := h.2 j c (by omega) hc e
  omega

set_option maxRecDepth 10000 in
set_option maxHeartbeats 1000000 in
theorem after_in (s1 s2 N k : Nat) (but : Int) (w : World) (h1 : s1 < 18446744073709551616) (h2 : s2 < 18446744073709551616)
    (hN : N ≤ 65535) (hk : k ≤ N) (hb0 : 0 ≤ but) (hbN : but ≤ N) :
    Calls Try.prog 4 #[.int .u64 s1, .int .u64 s2, .int .i64 ((N : Int) + 1), .int .i64 k, .int .i64 but] w fun e w' => e = .returned (.bool true) ∧ Below w.heap.size w w' := by
  have hmk := run_make_row' (P := Try.prog) 33 4 (.bool false) 1 Try.underlying33 info4 rfl .i64 .i64 (N + 1) (by omega) (by omega)
  have eN : (((N + 1 : Nat) : Int)) = (N : Int) + 1 := by omega
  rw [eN] at hmk
  have EN := hid eN
  clear eN
  go_enter Try.func4, Try.ntmps4
  go_wp2_with fail
  refine (new_any s1 s2 _).mono ?_
  rintro e w1 ⟨rfl, hw1⟩
  obtain ⟨sm, rm, pm, b1⟩ := made_new s1 s2 w w1 hw1
  have cd := hid (distbut_any _ _ _ s1 s2 N k but w1 sm rm pm h1 h2 hN hk hb0 hbN)
  have B1 := hid b1
  have ZS := hid sm.lt
  clear sm rm pm b1 hw1
  go_wp2_with fail
  refine cd.out.mono ?_
  intro e w2 hpost
  obtain ⟨v, mk, hi1, lo1, rfl, p1, p2, p3, p4, p5, p6, p7⟩ := hpost
  have D1 := hid p1
  have D2 := hid p2
  have D3 := hid p3
  have D6 := hid p6
  have L1 := hid p1.lt
  have BE2 : Hid (Below w.heap.size w w2) := B1.out.trans (p6.below B1.out.size (by simp))
  clear p1 p2 p3 p6
  rcases p7 with ⟨h0, hv⟩ | ⟨hk1, g, cap, f, hv, hgw, hrow, hgood, hne⟩
  · subst h0
    rw [hv]
    clear hv
    go_wp2_with fail
    go_loopg [54] 0 (fun gn i wr => i = .int .i64 0 ∧ Below w2.heap.size w2 wr ∧ wr.rowIs w2.heap.size 4 (N + 1) (markF []))
    case atStart => exact ⟨rfl, (Below.refl _ _).alloc (Nat.le_refl _) _, (World.rowIs_made w2 (.bool false) (N + 1) 4).congr (fun i _ => by simp [markF])⟩
    case round =>
      obtain ⟨rfl, hbl, hrow⟩ := hrel
      · have BL := hid hbl
        have RW := hid hrow
        clear hbl hrow
        have S3 := D1.out.of_block (BL.out.block _ L1.out)
        have R3 := D2.out.of_block (BL.out.block _ D2.out.lt)
        have P3 := D3.out.of_block (BL.out.block _ D3.out.lt)
        have co := hid (zzout_none _ _ _ hi1 lo1 1 mk (N + 1) but wr S3 R3 P3 p4 p5 (by omega) (by omega))
        rw [EN.out] at co
        have FT : Hid (Fits [] ((N + 1 : Nat) : Int) but) := by simp [Fits, Hid]
        clear S3 R3 P3
        go_wp2_with fail
        refine co.out.mono ?_
        intro e w5 hpost
        obtain ⟨hb5, hcase⟩ := hpost
        have B5 : Hid (Below w.heap.size w w5) := by
          have z2 := BE2.out.size
          have z3 := BL.out.size
          have h := (BE2.out.trans (BL.out.mono z2)).trans (hb5.below (by omega) (by simp))
          exact h
        rcases hcase with ⟨hle, rfl⟩ | ⟨hgt, v, hi', lo', hv, hd, rfl⟩
        · clear hb5
          go_wp2_with fail
          go_ret
          exact ⟨rfl, B5.out⟩
        · have hK := kth_of ([] : List Int) (N + 1) 0 v but rfl FT.out hb0 hv
          rw [List.nil_append] at hK
          obtain ⟨x0, x1, x2, x3, _⟩ := hK
          clear hd
          generalize Free.bump (srt [but]) v = X at *
          obtain ⟨Y, rfl⟩ := Int.eq_ofNat_of_zero_le x0
          have hYM : Y < N + 1 := by omega
          have hl1 := L1.out
          have hsc : w5.cell? ⟨w2.heap.size, Y, none⟩ = some (.bool (decide ((Y : Int) ∈ ([] : List Int)))) := (hb5.cell (p := ⟨w2.heap.size, Y, none⟩) RW.out.lt (by simp; omega)).trans (RW.out.cell hYM)
          rw [decide_eq_false x3] at hsc
          have hnb : ((Y : Int) != but) = true := by simp [x2]
          clear hb5 x3 x2
          go_wp2_with fail
          go_ret
          exact ⟨rfl, B5.out⟩
  · rw [hv]
    clear hv
    have HW := hid hrow
    have HG := hid hgood
    have HNE := hid hne
    have GL := hid hrow.lt
    clear hrow hgood hne
    have hkk : ((k : Int) != (k : Int)) = false := by simp
    go_wp2_with fail
    go_loopg [54] k (fun gn i wr => ∃ c : Nat, c + gn = k ∧ i = .int .i64 c ∧ Below w2.heap.size w2 wr ∧ wr.rowIs w2.heap.size 4 (N + 1) (markF (lst f c)))
    case atStart => exact ⟨0, by omega, rfl, (Below.refl _ _).alloc (Nat.le_refl _) _, (World.rowIs_made w2 (.bool false) (N + 1) 4).congr (fun i _ => by simp [markF, lst])⟩
    case round =>
      obtain ⟨c, hc, rfl, hbl, hrow⟩ := hrel
      have BL := hid hbl
      have RW := hid hrow
      clear hbl hrow
      by_cases hck : c < k
      · have hcell : wr.cell? ⟨g, c, none⟩ = some (.int .i64 (f c)) := (BL.out.cell (p := ⟨g, c, none⟩) GL.out).trans (HW.out.cell hck)
        have hnew := hid (lst_new HG.out hck)
        have hsn := hid (lst_succ f c)
        have gr := HG.out.1 c hck
        have hnb := HNE.out c hck
        have gr1 := gr.1
        have gr2 := gr.2
        clear gr
        generalize f c = t at *
        obtain ⟨T, rfl⟩ := Int.eq_ofNat_of_zero_le gr1
        have hTM : T < N + 1 := by omega
        have hmc : wr.cell? ⟨w2.heap.size, T, none⟩ = some (.bool (decide ((T : Int) ∈ lst f c))) := RW.out.cell hTM
        rw [decide_eq_false hnew.out] at hmc
        have hfr : wr.frozen? ⟨w2.heap.size, T, none⟩ = false := RW.out.frozen T
        have h3' : ((T : Int) == but) = false := by simp [hnb]
        clear hnb
        go_wp2_with fail
        go_roundg (gk - 1)
        case measure => omega
        case rel =>
          refine ⟨c + 1, by omega, by go_num, BL.out.setCell (p := ⟨w2.heap.size, T, none⟩) (Nat.le_refl _) _, ?_⟩
          rw [hsn.out]
          exact (RW.out.set T (.bool true)).congr (fun j _ => markF_snoc (lst f c) T (by omega) j)
      · obtain rfl : c = k := by omega
        have S3 := D1.out.of_block (BL.out.block _ L1.out)
        have R3 := D2.out.of_block (BL.out.block _ D2.out.lt)
        have P3 := D3.out.of_block (BL.out.block _ D3.out.lt)
        have c3 : ∀ i, i < c → wr.cell? ⟨g, i, none⟩ = some (.int .i64 ((lst f c).getD i 0)) := fun i hi => by
          rw [lst_get f c i hi]
          exact (BL.out.cell (p := ⟨g, i, none⟩) GL.out).trans (HW.out.cell hi)
        have co := hid (zzout_some _ _ _ hi1 lo1 1 mk (N + 1) but g c cap (lst f c) wr S3 R3 P3 p4 p5 (Nat.lt_of_lt_of_le GL.out BL.out.size) c3 (lst_len f c) (by omega) (by omega) (by omega))
        rw [EN.out] at co
        have FT := hid (lst_fits HG.out HNE.out)
        clear S3 R3 P3 c3
        go_wp2_with fail
        refine co.out.mono ?_
        intro e w5 hpost
        obtain ⟨hb5, hcase⟩ := hpost
        have B5 : Hid (Below w.heap.size w w5) := by
          have z2 := BE2.out.size
          have z3 := BL.out.size
          have h := (BE2.out.trans (BL.out.mono z2)).trans (hb5.below (by omega) (by simp))
          exact h
        rcases hcase with ⟨hle, rfl⟩ | ⟨hgt, v, hi', lo', hv, hd, rfl⟩
        · clear hb5
          go_wp2_with fail
          go_ret
          exact ⟨rfl, B5.out⟩
        · have hK := kth_of (lst f c) (N + 1) c v but (lst_len f c) FT.out hb0 hv
          obtain ⟨x0, x1, x2, x3, _⟩ := hK
          clear hd
          generalize Free.bump (srt ((lst f c) ++ [but])) v = X at *
          obtain ⟨Y, rfl⟩ := Int.eq_ofNat_of_zero_le x0
          have hYM : Y < N + 1 := by omega
          have hl1 := L1.out
          have hsc : w5.cell? ⟨w2.heap.size, Y, none⟩ = some (.bool (decide ((Y : Int) ∈ (lst f c)))) := (hb5.cell (p := ⟨w2.heap.size, Y, none⟩) RW.out.lt (by simp; omega)).trans (RW.out.cell hYM)
          rw [decide_eq_false x3] at hsc
          have hnb : ((Y : Int) != but) = true := by simp [x2]
          clear hb5 x3 x2
          go_wp2_with fail
          go_ret
          exact ⟨rfl, B5.out⟩
end Go.Proofs.Qxb6615739a
