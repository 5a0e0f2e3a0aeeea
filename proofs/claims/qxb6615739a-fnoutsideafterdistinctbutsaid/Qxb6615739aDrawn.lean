/- The walk of 'FnOutsideIsTheDrawnFreeNumber', at this seat's dump. -/
import Derived.Test.Qxb6615739aKthN
import Derived.Laws.CopyOwn
namespace Go.Proofs.Qxb6615739a
open Go.RowKit
open Free (fre)
set_option linter.unusedVariables false

/-- A slice of integers that came in: its elements. -/
def InRow (w : World) (x : Addr) (len : Nat) (L : List Int) : Prop :=
  L.length = len ∧ (0 < len → ∃ tb off, x = ⟨tb, off, none⟩ ∧ tb < w.heap.size ∧ ∀ i, i < len → w.cell? ⟨tb, off + i, none⟩ = some (.int .i64 (L.getD i 0)))

theorem fits_any (m but : Int) (x : Addr) (len cap : Nat) (L : List Int) (w : World) (h : InRow w x len L) (hlen : len ≤ 131072) (hm1 : 1 ≤ m) (hm2 : m ≤ 65536) :
    Calls Try.prog 8 #[.int .i64 m, .slice (some x) len cap, .int .i64 but] w (FitsPost L m but w) := by
  obtain ⟨hl, hx⟩ := h
  by_cases h0 : len = 0
  · subst h0
    obtain rfl : L = [] := List.eq_nil_of_length_eq_zero hl
    exact fits_none m but (some x) cap w hm1 hm2
  · obtain ⟨tb, off, rfl, htb, hc⟩ := hx (by omega)
    exact fits_some m but tb off len cap L w htb hc hl hlen hm1 hm2

/-- The plain law behind the answer. -/
theorem kth_of (L : List Int) (M len v : Nat) (but : Int) (hl : L.length = len) (hf : Fits L M but) (hb0 : 0 ≤ but) (hv : v < M - (len + 1)) : Kth L M but v (Free.bump (srt (L ++ [but])) v) := by
  obtain ⟨a, b, c, d⟩ := Free.outside_spec (L ++ [but]) (fits_all hf) M v (by omega) (by rw [List.length_append, hl]; simp; omega)
  refine ⟨a, b, fun e => c (List.mem_append.2 (.inr (by rw [List.mem_singleton]; exact e))), fun e => c (List.mem_append.2 (.inl e)), d⟩
theorem len_le (L : List Int) (M len : Nat) (but : Int) (hl : L.length = len) (hf : Fits L M but) (hb0 : 0 ≤ but) (hbm : but < M) : len + 1 ≤ M := by
  have := Free.few (L ++ [but]) (fits_all hf) M (by omega) (by
    intro t ht
    rcases List.mem_append.1 ht with e | e
    · exact ⟨(hf.1 t e).1, (hf.1 t e).2.1⟩
    · rw [List.mem_singleton] at e; omega)
  rw [List.length_append, hl] at this
  simp at this
  omega

theorem size3 : (Try.prog.info? 3).map (·.size) = some 1 := by kernel_rfl

/-- The copy that the law makes. -/
theorem copy_any (w : World) (x : Addr) (len cap : Nat) (L : List Int) (h : InRow w x len L) :
    ∃ W, (Builtin.copy_ #[23, 23] 3 #[.slice (some ⟨w.heap.size, 0, none⟩) len len, .slice (some x) len cap]).run Try.prog (w.alloc (.cells (madeCells #[.int .i64 0] len) 3)) = .ok (goInt len) W ∧
      W.heap[w.heap.size]? = some (.cells (L.map (Value.int .i64)).toArray 3 (0, 0)) ∧ Below w.heap.size w W := by
  obtain ⟨hl, hx⟩ := h
  by_cases h0 : len = 0
  · subst h0
    obtain rfl : L = [] := List.eq_nil_of_length_eq_zero hl
    exact ⟨_, run_copy_none (P := Try.prog) _ 23 23 3 3 _ _ 0 0 0 cap Try.underlying23 size3 (by simp), (heap_top _ _ _ rfl).trans (by simp [madeCells]), (Below.refl _ _).alloc (Nat.le_refl _) _⟩
  · obtain ⟨tb, off, rfl, htb, hc⟩ := hx (by omega)
    have hlm : (L.map (Value.int .i64)).length = len := by simp [hl]
    have hrun := run_copy_row (P := Try.prog) (w.alloc (.cells (madeCells #[.int .i64 0] len) 3)) 23 23 3 3 w.heap.size 0 len len ⟨tb, off, none⟩ len cap (madeCells #[.int .i64 0] len) 3 (L.map (Value.int .i64))
      Try.underlying23 size3 (heap_top _ _ _ rfl) (by rw [hlm]; simp) (by
        intro j u hj
        rw [List.getElem?_map] at hj
        obtain ⟨t, ht, rfl⟩ := Option.map_eq_some_iff.1 hj
        have hj' : j < L.length := (List.getElem?_eq_some_iff.1 ht).1
        have := hc j (by omega)
        rw [List.getD, ht] at this
        have e : (⟨tb, off, none⟩ : Addr).add j = ⟨tb, off + j, none⟩ := by
          unfold Addr.add
          by_cases h : j = 0 <;> simp [h]
        rw [e, World.cell?_of_block (w := w) (Below.heap_alloc _ _ _ htb)]
        exact this) (by rw [hlm]; simp [madeCells]) (by intro u hu; obtain ⟨t, _, rfl⟩ := List.mem_map.1 hu; rfl)
    rw [hlm] at hrun
    refine ⟨_, hrun, ?_, ?_⟩
    · rw [setRow_heap (w.alloc (.cells (madeCells #[.int .i64 0] len) 3)) w.heap.size _ _ 3 _ (heap_top _ _ _ rfl)]
      rw [List.take_zero, List.nil_append, List.drop_eq_nil_of_le (by simp [madeCells]), List.append_nil]
    · exact below_setRow ((Below.refl _ _).alloc (Nat.le_refl _) _) (Nat.le_refl _) _

theorem lt_of_heap {W : World} {g : Nat} {o : Obj} (h : W.heap[g]? = some o) : g < W.heap.size := (Array.getElem?_eq_some_iff.1 h).1
theorem InRow.below {w w' : World} {x : Addr} {len : Nat} {L : List Int} (h : InRow w x len L) (hb : Below w.heap.size w w') : InRow w' x len L := by
  refine ⟨h.1, fun h0 => ?_⟩
  obtain ⟨tb, off, e, htb, hc⟩ := h.2 h0
  refine ⟨tb, off, e, Nat.lt_of_lt_of_le htb hb.size, fun i hi => ?_⟩
  rw [hb.cell (p := ⟨tb, off + i, none⟩) htb]
  exact hc i hi

theorem row_cells {W : World} {g len : Nat} {L : List Int} (h : W.heap[g]? = some (.cells (L.map (Value.int .i64)).toArray 3 (0, 0))) (hl : L.length = len) : ∀ i, i < len → W.cell? ⟨g, i, none⟩ = some (.int .i64 (L.getD i 0)) := by
  intro i hi
  have := map_getD L i (by omega)
  simp [World.cell?, h]
  rw [List.getElem?_map] at this
  simpa using this

/-- What ZZnewSampler has made. -/
theorem made_new (s1 s2 : Nat) (w w' : World) (h : w' = ((w.alloc (pcgObj s1 s2)).alloc (randObj w.heap.size)).alloc (samObj (w.heap.size + 1))) :
    SamAt w' (w.heap.size + 2) (w.heap.size + 1) (.slice none 0 0) 0 (.slice none 0 0) ∧ RandAt w' (w.heap.size + 1) w.heap.size ∧ PcgAt w' w.heap.size s1 s2 ∧ Below w.heap.size w w' := by
  subst h
  refine ⟨heap_top _ _ _ (by simp), (heap_under _ _ _ (by simp)).trans (heap_top _ _ _ (by simp)), (heap_under _ _ _ (by simp; omega)).trans ((heap_under _ _ _ (by simp)).trans (heap_top _ _ _ rfl)), ?_⟩
  exact (((Below.refl _ _).alloc (Nat.le_refl _) _).alloc (by simp) _).alloc (by simp; omega) _

set_option maxRecDepth 10000 in
set_option maxHeartbeats 1000000 in
theorem law_some (s1 s2 M : Nat) (but : Int) (x : Addr) (len cap : Nat) (L : List Int) (w : World) (h1 : s1 < 18446744073709551616) (h2 : s2 < 18446744073709551616)
    (hin : InRow w x len L) (hlen : len ≤ 131072) (hm1 : 1 ≤ M) (hm2 : M ≤ 65536) (hb0 : 0 ≤ but) (hbm : but < M) :
    Calls Try.prog 3 #[.int .u64 s1, .int .u64 s2, .int .i64 M, .slice (some x) len cap, .int .i64 but] w fun e w' => e = .returned (.bool true) ∧ Below w.heap.size w w' := by
  have cb := hid (bytes_any s1 s2 M but (some x) len cap w (by omega))
  have cf := hid (fits_any M but x len cap L w hin hlen (by omega) (by omega))
  have hnn := fun W => run_neq_slice_nil_any (P := Try.prog) W 23 3 (some x) len cap 0 0 Try.underlying23
  have hmk := run_make_row' (P := Try.prog) 23 3 (.int .i64 0) 8 Try.underlying23 info3m rfl .i64 .i64 len (by omega) (by omega)
  have HIN := hid hin
  clear hin
  go_enter Try.func3, Try.ntmps3
  go_wp2_with fail
  refine cb.out.mono ?_
  rintro e w1 ⟨rfl, hw1⟩
  obtain rfl : w = w1 := hw1.symm
  go_wp2_with fail
  refine cf.out.mono ?_
  intro e w2 hpost
  obtain ⟨v0, rfl, hfit, hbel⟩ := hpost
  have HB2 := hid hbel
  clear hbel
  cases v0 with
  | false =>
    clear hfit
    go_wp2_with fail
    go_ret
    exact ⟨rfl, HB2.out⟩
  | true =>
    have HF := hid (hfit rfl)
    clear hfit
    obtain ⟨w3, hrun, hrow, hbel3⟩ := copy_any w2 x len cap L (HIN.out.below HB2.out)
    have HROW := hid hrow
    have HB3 := hid hbel3
    have C3 := hid (row_cells hrow HIN.out.1)
    have SZ2 := hid (lt_of_heap hrow)
    clear hrow hbel3
    go_wp2_with fail
    refine (new_any s1 s2 _).mono ?_
    rintro e w4 ⟨rfl, hw4⟩
    obtain ⟨sm4, rm4, pm4, b4⟩ := made_new s1 s2 w3 w4 hw4
    have c4 : ∀ i, i < len → w4.cell? ⟨w2.heap.size, i, none⟩ = some (.int .i64 (L.getD i 0)) := fun i hi => (b4.cell (p := ⟨w2.heap.size, i, none⟩) SZ2.out).trans (C3.out i hi)
    have co := hid (zzout_some (w3.heap.size + 2) (w3.heap.size + 1) w3.heap.size s1 s2 0 (.slice none 0 0) M but w2.heap.size len len L w4 sm4 rm4 pm4 h1 h2 (Nat.lt_of_lt_of_le SZ2.out b4.size) c4 HIN.out.1 hlen hm1 hm2)
    have B4 := hid b4
    have C4 := hid c4
    clear sm4 rm4 pm4 b4 c4 hw4
    go_wp2_with fail
    refine co.out.mono ?_
    intro e w5 hpost
    obtain ⟨hb5, hcase⟩ := hpost
    have bel5 : Below w.heap.size w w5 := by
      have z2 := HB2.out.size
      have z3 := HB3.out.size
      have z4 := B4.out.size
      exact ((HB2.out.trans (HB3.out.mono z2)).trans (B4.out.mono (by omega))).trans (hb5.below (by omega) (by simp; omega))
    have c5 : ∀ i, i < len → w5.cell? ⟨w2.heap.size, i, none⟩ = some (.int .i64 (L.getD i 0)) := fun i hi => (hb5.cell (p := ⟨w2.heap.size, i, none⟩) (Nat.lt_of_lt_of_le SZ2.out B4.out.size) (by have := SZ2.out; simp; omega)).trans (C4.out i hi)
    have z5 : Hid (w2.heap.size < w5.heap.size) := by
      have h := Nat.lt_of_lt_of_le (Nat.lt_of_lt_of_le SZ2.out B4.out.size) hb5.size
      exact h
    have B5 := hid bel5
    have C5 := hid c5
    clear hb5 bel5 c5
    rcases hcase with ⟨hle, rfl⟩ | ⟨hgt, v, hi', lo', hv, hd, rfl⟩
    · have hMl := len_le L M len but HIN.out.1 HF.out hb0 hbm
      have hfree : ((M : Int) - 1 - (len : Int) == 0) = true := by simp; omega
      go_wp2_with fail
      go_ret
      exact ⟨rfl, B5.out⟩
    · have hfree : ((M : Int) - 1 - (len : Int) == 0) = false := by simp; omega
      have HD := hid hd
      have HV := hid hv
      clear hd hv
      have hK := hid (kth_of L M len v but HIN.out.1 HF.out hb0 HV.out)
      generalize Free.bump (srt (L ++ [but])) v = X at *
      go_wp2_with fail
      rw [show ((M : Int) - 1 - (len : Int)) = ((M - (len + 1) : Nat) : Int) from by omega]
      refine (draw_any s1 s2 (M - (len + 1)) _ h1 h2 (by omega) (by omega)).mono ?_
      rintro e w6 ⟨v', hi2, lo2, rfl, hv', hd', hb6⟩
      obtain rfl : v = v' := HD.out.det hd'
      have c6 : ∀ i, i < len → w6.cell? ⟨w2.heap.size, i, none⟩ = some (.int .i64 (L.getD i 0)) := fun i hi => (hb6.cell (p := ⟨w2.heap.size, i, none⟩) z5.out).trans (C5.out i hi)
      have ck := hid (kth_some M but v w2.heap.size len L X w6 (Nat.lt_of_lt_of_le z5.out hb6.size) c6 HIN.out.1 hlen (by omega) (by omega) hb0 hbm HF.out hK.out)
      have B6 := hid (B5.out.trans (hb6.mono B5.out.size))
      clear hd' hb6 c6 hv'
      go_wp2_with fail
      refine ck.out.mono ?_
      rintro e w7 ⟨rfl, hb7⟩
      have B7 := hid (B6.out.trans (hb7.mono B6.out.size))
      clear hb7
      go_wp2_with fail
      go_ret
      exact ⟨rfl, B7.out⟩
end Go.Proofs.Qxb6615739a
