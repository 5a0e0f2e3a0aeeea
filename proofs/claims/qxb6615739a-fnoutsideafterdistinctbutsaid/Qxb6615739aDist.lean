/- (*Sampler).Distinct, at this seat's dump. -/
import Derived.Test.Qxb6615739aSwap
namespace Go.Proofs.Qxb6615739a
open Go.RowKit
set_option linter.unusedVariables false

theorem info22m : (Try.prog.info? 22).map (fun i => (i.zero, i.size, i.bytes)) = some (some (.int .u64 0), 1, 8) := by kernel_rfl

/-- The row of marks of round 1. -/
def markU (L : List Int) : Nat → Value := fun j => .int .u64 (if (j : Int) ∈ L then 1 else 0)
theorem markU_snoc (L : List Int) (t : Nat) (j : Nat) : (if j = t then Value.int .u64 1 else markU L j) = markU (L ++ [(t : Int)]) j := by
  unfold markU
  by_cases e : j = t
  · rw [if_pos e]; subst e; simp
  · rw [if_neg e]
    have : (j : Int) ≠ (t : Int) := by omega
    simp [this]

theorem shuffle_nil (r : Nat) (F : Value) (w : World) :
    Calls Try.prog 33 #[.pointer (some ⟨r, 0, none⟩), .int .i64 0, F] w fun e w' => e = .returned (.tuple #[]) ∧ w' = w := by
  go_enter Try.func33, Try.ntmps33
  go_wp2_with fail
  go_loop [6] (fun i => i = .int .i64 (-1)) (fun _ => 0)
  case atStart => rfl
  case round =>
    subst hrel
    go_wp2_with fail
    go_end0
    exact ⟨rfl, rfl⟩

theorem own_but {w w' : World} {base b n : Nat} {e : TypeId} {size : Nat} {v : Value} {xs : List Value} (h : w.ownsRow base e size v n xs) (hb : But b w w') (hlt : b < base) : w'.ownsRow base e size v n xs := by
  refine ⟨h.1, ?_⟩
  rcases h.2 with hn | ⟨g, cap, cur, hv, hg, hh, rest⟩
  · exact .inl hn
  · exact .inr ⟨g, cap, cur, hv, hg, (hb.block g (Array.getElem?_eq_some_iff.1 hh).1 (by omega)).trans hh, rest⟩

/-- What holds at the head of Floyd's loop. -/
def Floyd (w : World) (s r b N k : Nat) (i : Nat) (wr : World) : Prop :=
  ∃ (L : List Int) (v : Value) (hi lo : Nat), L.length = i ∧ (∀ t ∈ L, 0 ≤ t ∧ t < (N : Int) - k + i) ∧ L.Nodup ∧ VarAt wr w.heap.size v ∧ wr.ownsRow (w.heap.size + 2) 3 1 v i (L.map (Value.int .i64)) ∧
    SamAt wr s r (.slice (some ⟨w.heap.size + 1, 0, none⟩) N N) 1 (.slice none 0 0) ∧ wr.rowIs (w.heap.size + 1) 22 N (markU L) ∧ RandAt wr r b ∧ PcgAt wr b hi lo ∧ hi < 18446744073709551616 ∧ lo < 18446744073709551616 ∧
    Buts [s, b] w wr ∧ w.heap.size + 2 ≤ wr.heap.size ∧ (i = 0 → v = .slice none 0 0)

theorem val_eq {a b : Int} (h : a = b) : Value.int .i64 a = .int .i64 b := by rw [h]
theorem SamAt.set1 {w : World} {s r rd : Nat} {mk room : Value} (h : SamAt w s r mk rd room) (v : Value) : SamAt (w.setCell ⟨s, 1, none⟩ v) s r v rd room := by
  unfold SamAt at *
  simp [World.setCell, Array.getElem?_modify, h]
theorem SamAt.set2 {w : World} {s r rd : Nat} {mk room : Value} (h : SamAt w s r mk rd room) (n : Nat) : SamAt (w.setCell ⟨s, 2, none⟩ (.int .u64 n)) s r mk n room := by
  unfold SamAt at *
  simp [World.setCell, Array.getElem?_modify, h]

/-- The world in which the loop begins. -/
def startW (w : World) (s N : Nat) : World :=
  (((w.setCell ⟨s, 1, none⟩ (.slice (some ⟨w.heap.size + 1, 0, none⟩) N N)).setCell ⟨s, 2, none⟩ (.int .u64 1)).alloc (.cells #[.slice none 0 0] 23)).alloc (.cells (madeCells #[.int .u64 0] N) 22)

theorem floyd_start (s r b hi lo N k : Nat) (w : World) (hs : SamAt w s r (.slice none 0 0) 0 (.slice none 0 0)) (hr : RandAt w r b) (hb : PcgAt w b hi lo) (hhi : hi < 18446744073709551616) (hlo : lo < 18446744073709551616) :
    Floyd w s r b N k 0 (startW w s N) := by
  have hrs : r ≠ s := by
    intro e
    have h1 := hs
    have h2 := hr
    unfold SamAt at h1
    unfold RandAt at h2
    rw [e, h1] at h2
    simp at h2
  have hbs : b ≠ s := by
    intro e
    have h1 := hs
    have h2 := hb
    unfold SamAt at h1
    unfold PcgAt at h2
    rw [e, h1] at h2
    simp at h2
  have sz : ((w.setCell ⟨s, 1, none⟩ (.slice (some ⟨w.heap.size + 1, 0, none⟩) N N)).setCell ⟨s, 2, none⟩ (.int .u64 1)).heap.size = w.heap.size := by simp
  have hslt := hs.lt
  have hrlt := hr.lt
  have hblt := hb.lt
  have old : ∀ q, q < w.heap.size → q ≠ s → (startW w s N).heap[q]? = w.heap[q]? := by
    intro q hq hqs
    unfold startW
    rw [heap_under _ _ _ (by simp; omega), heap_under _ _ _ (by simp; omega), Below.heap_setCell _ _ _ _ hqs, Below.heap_setCell _ _ _ _ hqs]
  refine ⟨[], .slice none 0 0, hi, lo, rfl, by simp, by simp, ?_, World.ownsRow_nil _ _ _ _, ?_, ?_, hr.of_block (old r hrlt hrs), hb.of_block (old b hblt hbs), hhi, hlo, ?_, by simp [startW], fun _ => rfl⟩
  · exact (heap_under _ _ _ (by simp)).trans (heap_top _ _ _ (by simp))
  · refine ((hs.set1 _).set2 1).of_block ?_
    unfold startW
    rw [heap_under _ _ _ (by simp; omega), heap_under _ _ _ (by simp; omega)]
    rfl
  · have h := World.rowIs_made (((w.setCell ⟨s, 1, none⟩ (.slice (some ⟨w.heap.size + 1, 0, none⟩) N N)).setCell ⟨s, 2, none⟩ (.int .u64 1)).alloc (.cells #[.slice none 0 0] 23)) (.int .u64 0) N 22
    rw [World.size_alloc, sz] at h
    exact h.congr (fun i _ => by simp [markU])
  · exact ((((Buts.refl _ _).setCell (p := ⟨s, 1, none⟩) (by simp) _).setCell (p := ⟨s, 2, none⟩) (by simp) _).alloc _).alloc _

/-- What holds in the middle of a round, behind the mark. -/
def Mid (w : World) (s r b N : Nat) (L : List Int) (y : Nat) (v : Value) (i : Nat) (w3 : World) : Prop :=
  ∃ hi lo : Nat, VarAt w3 w.heap.size v ∧ w3.ownsRow (w.heap.size + 2) 3 1 v i (L.map (Value.int .i64)) ∧ SamAt w3 s r (.slice (some ⟨w.heap.size + 1, 0, none⟩) N N) 1 (.slice none 0 0) ∧
    w3.rowIs (w.heap.size + 1) 22 N (markU (L ++ [(y : Int)])) ∧ RandAt w3 r b ∧ PcgAt w3 b hi lo ∧ hi < 18446744073709551616 ∧ lo < 18446744073709551616 ∧ Buts [s, b] w w3 ∧ w.heap.size + 2 ≤ w3.heap.size

theorem mid_of (w : World) (s r b N : Nat) (L : List Int) (y : Nat) (v : Value) (i : Nat) (w2 : World) (hi lo q : Nat) (hs : s < w.heap.size) (hr : r < w.heap.size) (hb : b < w.heap.size)
    (h1 : VarAt w2 w.heap.size v) (h2 : w2.ownsRow (w.heap.size + 2) 3 1 v i (L.map (Value.int .i64))) (h3 : SamAt w2 s r (.slice (some ⟨w.heap.size + 1, 0, none⟩) N N) 1 (.slice none 0 0))
    (h4 : w2.rowIs (w.heap.size + 1) 22 N (markU L)) (h5 : RandAt w2 r b) (h6 : PcgAt w2 b hi lo) (h7 : hi < 18446744073709551616) (h8 : lo < 18446744073709551616) (h9 : Buts [s, b] w w2) (h10 : w.heap.size + 2 ≤ w2.heap.size) :
    Mid w s r b N L y v i ((w2.drewN q).setCell ⟨w.heap.size + 1, y, none⟩ (.int .u64 1)) := by
  have oth : ∀ k, k ≠ w.heap.size + 1 → ((w2.drewN q).setCell ⟨w.heap.size + 1, y, none⟩ (.int .u64 1)).heap[k]? = w2.heap[k]? := fun k hk => Below.heap_setCell _ _ _ _ hk
  have hd : (w2.drewN q).ownsRow (w.heap.size + 2) 3 1 v i (L.map (Value.int .i64)) := h2
  refine ⟨hi, lo, h1.of_block (oth _ (by omega)), ownsRow_setCell_below hd (a := ⟨w.heap.size + 1, y, none⟩) (by simp) _, h3.of_block (oth _ (by omega)), ?_, h5.of_block (oth _ (by omega)), h6.of_block (oth _ (by omega)), h7, h8, (h9.drewN q).setNew (p := ⟨w.heap.size + 1, y, none⟩) (by simp) _, by simpa [World.setCell] using h10⟩
  have h4' : (w2.drewN q).rowIs (w.heap.size + 1) 22 N (markU L) := h4
  exact (h4'.set y (.int .u64 1)).congr (fun j _ => markU_snoc L y j)

/-- The round's end. -/
theorem step_of (w : World) (s r b N k : Nat) (L : List Int) (y : Nat) (v v' : Value) (i J : Nat) (w3 w4 : World) (hs : s < w.heap.size) (hr : r < w.heap.size) (hb : b < w.heap.size)
    (hm : Mid w s r b N L y v i w3) (hl : L.length = i) (hrg : ∀ t ∈ L, 0 ≤ t ∧ t < (N : Int) - k + i) (hnd : L.Nodup) (hyL : (y : Int) ∉ L) (hy : y ≤ J) (hJ : J + k = N + i)
    (own : w4.ownsRow (w.heap.size + 2) 3 1 v' (i + 1) (L.map (Value.int .i64) ++ [.int .i64 y])) (gr : (w3.alloc (.cells #[.int .i64 y] 3)).grownBy w4 v.ownBlock) :
    Floyd w s r b N k (i + 1) (w4.setCell ⟨w.heap.size, 0, none⟩ v') := by
  obtain ⟨hi, lo, m1, m2, m3, m4, m5, m6, m7, m8, m9, m10⟩ := hm
  have old : ∀ q, q < w3.heap.size → q < w.heap.size + 2 → w4.heap[q]? = w3.heap[q]? := by
    intro q hq hq2
    rw [gr.block q (by simp; omega) (fun e => by have := own_ge m2 q e.symm; omega)]
    exact heap_under _ _ _ hq
  have oth : ∀ q, q ≠ w.heap.size → (w4.setCell ⟨w.heap.size, 0, none⟩ v').heap[q]? = w4.heap[q]? := fun q hq => Below.heap_setCell _ _ _ _ hq
  have all : ∀ q, q < w.heap.size + 2 → q ≠ w.heap.size → (w4.setCell ⟨w.heap.size, 0, none⟩ v').heap[q]? = w3.heap[q]? := fun q hq hne => (oth q hne).trans (old q (by omega) hq)
  refine ⟨L ++ [(y : Int)], v', hi, lo, by simp [hl], ?_, ?_, ?_, ?_, m3.of_block (all s (by omega) (by omega)), m4.of_block (all _ (by omega) (by omega)), m5.of_block (all r (by omega) (by omega)), m6.of_block (all b (by omega) (by omega)), m7, m8, ?_, ?_, fun h => by omega⟩
  · intro t ht
    rcases List.mem_append.1 ht with e | e
    · have := hrg t e; omega
    · rw [List.mem_singleton] at e; omega
  · rw [List.nodup_append]
    refine ⟨hnd, by simp, fun a ha c hc => ?_⟩
    rw [List.mem_singleton] at hc
    rw [hc]
    intro e
    rw [e] at ha
    exact hyL ha
  · exact (m1.of_block (old _ (by omega) (by omega))).set v'
  · have := ownsRow_setCell_below own (a := ⟨w.heap.size, 0, none⟩) (by simp) v'
    simpa using this
  · exact ((m9.alloc _).grown gr (fun k hk => .inl (by have := own_ge m2 k hk; omega))).setNew (p := ⟨w.heap.size, 0, none⟩) (Nat.le_refl _) _
  · have := gr.size
    simp at this ⊢
    omega

/-- What Distinct leaves. -/
def DistPost (s r b N k : Nat) (w : World) (e : Ending) (w' : World) : Prop :=
  ∃ (v mk : Value) (hi lo : Nat), e = .returned v ∧ SamAt w' s r mk 1 (.slice none 0 0) ∧ RandAt w' r b ∧ PcgAt w' b hi lo ∧ hi < 18446744073709551616 ∧ lo < 18446744073709551616 ∧ Buts [s, b] w w' ∧
    ((k = 0 ∧ v = .slice none 0 0) ∨ (1 ≤ k ∧ ∃ (g cap : Nat) (f : Nat → Int), v = .slice (some ⟨g, 0, none⟩) k cap ∧ w.heap.size ≤ g ∧ RowF w' g k f ∧ Good f k N))
theorem Buts.join {L L' : List Nat} {u v w : World} (h : Buts L u v) (k : Buts L' v w) (hL : ∀ q ∈ L', q ∈ L ∨ u.heap.size ≤ q) : Buts L u w :=
  ⟨k.os.trans h.os, k.tape.trans h.tape, k.output.trans h.output, Nat.le_trans h.size k.size, fun i hi hb => (k.block i (Nat.lt_of_lt_of_le hi h.size) (fun hm => by rcases hL i hm with q | q; exact hb q; omega)).trans (h.block i hi hb)⟩
theorem rowF_of_own {w : World} {base g n cap : Nat} {L : List Int} (h : w.ownsRow base 3 1 (.slice (some ⟨g, 0, none⟩) n cap) n (L.map (Value.int .i64))) (hl : L.length = n) : base ≤ g ∧ RowF w g n (fun i => L.getD i 0) := by
  rcases h.2 with ⟨hv, _⟩ | ⟨g', cap', cur, hv, hg, hh, h1, h2, h3, h4⟩
  · cases hv
  · cases hv
    refine ⟨hg, cur, hh, by omega, fun i hi => ?_⟩
    have e : (cur.toList.take (n * 1))[i]? = (L.map (Value.int .i64))[i]? := by rw [h4]
    rw [List.getElem?_take_of_lt (by omega), Array.getElem?_toList] at e
    rw [e]
    exact map_getD L i (by omega)
theorem good_of {L : List Int} {N k : Nat} (hl : L.length = k) (hrg : ∀ t ∈ L, 0 ≤ t ∧ t < (N : Int) - k + k) (hnd : L.Nodup) : Good (fun i => L.getD i 0) k N := by
  have hm : ∀ i, (h : i < k) → L.getD i 0 = L[i]'(by omega) := by
    intro i h
    simp [List.getD, List.getElem?_eq_getElem (show i < L.length by omega)]
  refine ⟨fun i hi => ?_, fun i j hi hj e => ?_⟩
  · show 0 ≤ L.getD i 0 ∧ L.getD i 0 < N
    rw [hm i hi]
    have := hrg _ (List.getElem_mem (show i < L.length by omega))
    omega
  · have e' : L.getD i 0 = L.getD j 0 := e
    rw [hm i hi, hm j hj] at e'
    rw [List.nodup_iff_pairwise_ne, List.pairwise_iff_getElem] at hnd
    rcases Nat.lt_trichotomy i j with l | l | l
    · exact absurd e' (hnd i j (by omega) (by omega) l)
    · exact l
    · exact absurd e'.symm (hnd j i (by omega) (by omega) l)

set_option maxRecDepth 10000 in
set_option maxHeartbeats 1000000 in
theorem dist_some (s r b hi lo N k : Nat) (w : World) (hs : SamAt w s r (.slice none 0 0) 0 (.slice none 0 0)) (hr : RandAt w r b) (hb : PcgAt w b hi lo) (hhi : hi < 18446744073709551616) (hlo : lo < 18446744073709551616)
    (hN1 : 1 ≤ N) (hN2 : N ≤ 65536) (hk : k ≤ N) :
    Calls Try.prog 28 #[.pointer (some ⟨s, 0, none⟩), .slice none 0 0, .int .i64 N, .int .i64 k] w (DistPost s r b N k w) := by
  obtain ⟨i0, hi3, hz0, hz1, hz2⟩ := info3
  have c1 := hs.cell1
  have c2 := hs.cell2
  have f1 := hs.frozen 1
  have f2 := hs.frozen 2
  have hslt := hs.lt
  have hmk := run_make_row' (P := Try.prog) 35 22 (.int .u64 0) 8 Try.underlying35 info22m rfl .i64 .i64 N (by omega) (by omega)
  have hdN : decide (0 < N) = true := by simp; omega
  have HS := hid hs
  have HR := hid hr
  have HP := hid hb
  clear hs hr hb
  go_enter Try.func28, Try.ntmps28
  go_wp2_with fail
  go_loopg [9] k (fun gn j wr => ∃ i J : Nat, i + gn = k ∧ J + k = N + i ∧ j = .int .i64 J ∧ Floyd w s r b N k i wr)
  case atStart => exact ⟨0, N - k, by omega, by omega, val_eq (by omega), floyd_start s r b hi lo N k w HS.out HR.out HP.out hhi hlo⟩
  case round =>
    obtain ⟨i, J, hi1, hJ, rfl, hfl⟩ := hrel
    obtain ⟨L, v, hi', lo', hl, hrg, hnd, hva, hown, hsa, hrow, hra, hpc, h1', h2', hbu, hsz, hnil⟩ := hfl
    by_cases hik : i < k
    · have ci := hid (intn_any r b hi' lo' (J + 1) wr hra hpc h1' h2' (by omega) (by omega))
      have s0 := hsa.cell0
      have HL := hid hl
      have HRG := hid hrg
      have HND := hid hnd
      have HVA := hid hva
      have HOW := hid hown
      have HSA := hid hsa
      have HRW := hid hrow
      have HRA := hid hra
      have HPC := hid hpc
      have HBU := hid hbu
      clear hl hrg hnd hva hown hsa hrow hra hpc hbu
      go_wp2_with fail
      rw [show ((J : Int) + 1) = ((J + 1 : Nat) : Int) from by omega]
      refine ci.out.mono ?_
      rintro e w2 ⟨x, hi2, lo2, rfl, hx, hd2, hp2, hq2⟩
      have hsb : s ≠ b := by
        intro e
        have h1 := HS.out
        have h2 := HP.out
        unfold SamAt at h1
        unfold PcgAt at h2
        rw [← e, h1] at h2
        simp at h2
      have hblt := HP.out.lt
      have SA2 := hid (HSA.out.of_block (hq2.block s HSA.out.lt hsb))
      have RW2 := hid (HRW.out.of_block (hq2.block (w.heap.size + 1) HRW.out.lt (by omega)))
      have VA2 := hid (HVA.out.of_block (hq2.block w.heap.size HVA.out.lt (by omega)))
      have OW2 := hid (own_but HOW.out hq2 (by omega))
      have RA2 := hid (HRA.out.but (apart_rb HRA.out HPC.out) hq2)
      have BU2 := hid (HBU.out.trans (hq2.buts (L := [s, b]) (by simp)))
      have ST2 := hid hd2.state
      have PC2 := hid hp2
      have SZ2 : Hid (w.heap.size + 2 ≤ w2.heap.size) := Nat.le_trans hsz hq2.size
      have m1 := SA2.out.cell1
      have m2 : w2.cell? ⟨s, 2, none⟩ = some (.int .u64 1) := SA2.out.cell2
      have mx : w2.cell? ⟨w.heap.size + 1, x, none⟩ = some (.int .u64 (if (x : Int) ∈ L then 1 else 0)) := RW2.out.cell (by omega)
      have hxN : (x : Int) < (N : Int) := by omega
      clear hp2 hq2 hd2 s0
      by_cases hin : (x : Int) ∈ L
      · rw [if_pos hin] at mx
        have my : w2.cell? ⟨w.heap.size + 1, J, none⟩ = some (markU L J) := RW2.out.cell (by omega)
        have fy : w2.frozen? ⟨w.heap.size + 1, J, none⟩ = false := RW2.out.frozen J
        have hyL : Hid ((J : Int) ∉ L) := fun h => by have := HRG.out _ h; omega
        clear hin
        go_wp2_with fail
        go_quiet (fail)
        go_wp2_with fail
        go_region
        generalize hW3 : (w2.drewN (nq + 1)).setCell ⟨w.heap.size + 1, J, none⟩ (.int .u64 1) = w3
        have hmid : Mid w s r b N L J v i w3 := hW3 ▸ mid_of w s r b N L J v i w2 hi2 lo2 (nq + 1) hslt HR.out.lt hblt VA2.out OW2.out SA2.out RW2.out RA2.out PC2.out ST2.out.1 ST2.out.2 BU2.out SZ2.out
        obtain ⟨_, _, n1, n2, _, _, _, _, _, _, _, n10⟩ := id hmid
        have v0 := n1.cell0
        have own3a := n2.alloc (.cells #[.int .i64 J] 3)
        have MID := hid hmid
        have SZ3 := hid n10
        have N1 := hid n1
        have N2 := hid n2
        clear hmid n1 n2 n10 hW3 m1 m2 mx my fy c1 c2 f1 f2
        go_wp2_with (at_builtin; refine wpList_append_own _ rfl _ _ 23 rfl (w.heap.size + 2) 3 i0 (.int .i64 0) 1 8 Try.underlying23 hi3 hz0 hz1 hz2 rfl (by decide) _ _ _ rfl own3a ⟨w3.heap.size, 0, none⟩ 1 1 [.int .i64 J] rfl ?d0 ?d1 ?d2 ?d3 ?d4 ?d5 ?_)
        case d0 => rfl
        case d1 =>
          intro j u hj
          match j, hj with
          | 0, hj => simp at hj; subst hj; simp [Addr.add]
        case d2 => intro u hu; simp at hu; subst hu; rfl
        case d3 => unfold maxLen; omega
        case d4 => omega
        case d5 => have := SZ3.out; simp; omega
        intro v4 w4 own4 grow4 _
        have hex : ∃ g cap, v4 = .slice (some ⟨g, 0, none⟩) (i + 1) cap := by
          rcases own4.2 with ⟨_, h0⟩ | ⟨g, cap, cur, hv, _⟩
          · omega
          · exact ⟨g, cap, hv⟩
        obtain ⟨g4, cap4, hv4⟩ := hex
        rw [hv4] at own4
        rw [hv4]
        clear hv4
        have V4 : VarAt w4 w.heap.size v := N1.out.of_block ((grow4.block _ (by have := SZ3.out; simp; omega) (fun e => by have := own_ge N2.out _ e.symm; omega)).trans (heap_under _ _ _ (by have := SZ3.out; omega)))
        have q0 := V4.cell0
        have p0 := V4.frozen0
        have FL := hid (step_of w s r b N k L J v (.slice (some ⟨g4, 0, none⟩) (i + 1) cap4) i J w3 w4 hslt HR.out.lt hblt MID.out HL.out HRG.out HND.out hyL.out (by omega) hJ own4 grow4)
        clear own4 grow4 V4 own3a v0
        go_wp2_with fail
        go_roundg (gk - 1)
        case measure => omega
        case rel => exact ⟨i + 1, J + 1, by omega, by omega, by go_num, FL.out⟩
      · rw [if_neg hin] at mx
        have my : w2.cell? ⟨w.heap.size + 1, x, none⟩ = some (markU L x) := RW2.out.cell (by omega)
        have fy : w2.frozen? ⟨w.heap.size + 1, x, none⟩ = false := RW2.out.frozen x
        have hyL : Hid ((x : Int) ∉ L) := hin
        clear hin
        go_wp2_with fail
        go_quiet (fail)
        go_wp2_with fail
        go_region
        generalize hW3 : (w2.drewN (nq + 1)).setCell ⟨w.heap.size + 1, x, none⟩ (.int .u64 1) = w3
        have hmid : Mid w s r b N L x v i w3 := hW3 ▸ mid_of w s r b N L x v i w2 hi2 lo2 (nq + 1) hslt HR.out.lt hblt VA2.out OW2.out SA2.out RW2.out RA2.out PC2.out ST2.out.1 ST2.out.2 BU2.out SZ2.out
        obtain ⟨_, _, n1, n2, _, _, _, _, _, _, _, n10⟩ := id hmid
        have v0 := n1.cell0
        have own3a := n2.alloc (.cells #[.int .i64 x] 3)
        have MID := hid hmid
        have SZ3 := hid n10
        have N1 := hid n1
        have N2 := hid n2
        clear hmid n1 n2 n10 hW3 m1 m2 mx my fy c1 c2 f1 f2
        go_wp2_with (at_builtin; refine wpList_append_own _ rfl _ _ 23 rfl (w.heap.size + 2) 3 i0 (.int .i64 0) 1 8 Try.underlying23 hi3 hz0 hz1 hz2 rfl (by decide) _ _ _ rfl own3a ⟨w3.heap.size, 0, none⟩ 1 1 [.int .i64 x] rfl ?d0 ?d1 ?d2 ?d3 ?d4 ?d5 ?_)
        case d0 => rfl
        case d1 =>
          intro j u hj
          match j, hj with
          | 0, hj => simp at hj; subst hj; simp [Addr.add]
        case d2 => intro u hu; simp at hu; subst hu; rfl
        case d3 => unfold maxLen; omega
        case d4 => omega
        case d5 => have := SZ3.out; simp; omega
        intro v4 w4 own4 grow4 _
        have hex : ∃ g cap, v4 = .slice (some ⟨g, 0, none⟩) (i + 1) cap := by
          rcases own4.2 with ⟨_, h0⟩ | ⟨g, cap, cur, hv, _⟩
          · omega
          · exact ⟨g, cap, hv⟩
        obtain ⟨g4, cap4, hv4⟩ := hex
        rw [hv4] at own4
        rw [hv4]
        clear hv4
        have V4 : VarAt w4 w.heap.size v := N1.out.of_block ((grow4.block _ (by have := SZ3.out; simp; omega) (fun e => by have := own_ge N2.out _ e.symm; omega)).trans (heap_under _ _ _ (by have := SZ3.out; omega)))
        have q0 := V4.cell0
        have p0 := V4.frozen0
        have FL := hid (step_of w s r b N k L x v (.slice (some ⟨g4, 0, none⟩) (i + 1) cap4) i J w3 w4 hslt HR.out.lt hblt MID.out HL.out HRG.out HND.out hyL.out (by omega) hJ own4 grow4)
        clear own4 grow4 V4 own3a v0
        go_wp2_with fail
        go_roundg (gk - 1)
        case measure => omega
        case rel => exact ⟨i + 1, J + 1, by omega, by omega, by go_num, FL.out⟩
    · obtain rfl : i = k := by omega
      have s0 := hsa.cell0
      have hblt := HP.out.lt
      have hrlt := HR.out.lt
      have hsb : s ≠ b := by
        intro e
        have h1 := HS.out
        have h2 := HP.out
        unfold SamAt at h1
        unfold PcgAt at h2
        rw [← e, h1] at h2
        simp at h2
      have hsr : s ≠ r := by
        intro e
        have h1 := HS.out
        have h2 := HR.out
        unfold SamAt at h1
        unfold RandAt at h2
        rw [← e, h1] at h2
        simp at h2
      by_cases hk0 : i = 0
      · have hvn := hnil hk0
        rw [hvn] at hva
        subst hk0
        have v0 := hva.cell0
        have FIN : Hid (∀ w', w'.heap = wr.heap → w'.os = wr.os → w'.tape = wr.tape → w'.output = wr.output → DistPost s r b N 0 w (.returned (.slice none 0 0)) w') := by
          intro w' e1 e2 e3 e4
          have ob : ∀ q : Nat, w'.heap[q]? = wr.heap[q]? := fun q => by rw [e1]
          exact ⟨_, _, hi', lo', rfl, hsa.of_block (ob _), hra.of_block (ob _), hpc.of_block (ob _), h1', h2', ⟨e2.trans hbu.os, e3.trans hbu.tape, e4.trans hbu.output, by rw [e1]; exact hbu.size, fun q hq hL => (ob q).trans (hbu.block q hq hL)⟩, .inl ⟨rfl, rfl⟩⟩
        clear hl hrg hnd hva hown hsa hrow hra hpc hbu hnil hvn c1 c2 f1 f2
        go_wp2_with fail
        go_region_with (go_at_call 33; refine (shuffle_nil r _ _).mono ?_; rintro e w5 ⟨rfl, hw5⟩; rw [hw5]; clear hw5)
        all_goals
          go_wp2_with fail
          go_ret
          exact FIN.out _ rfl rfl rfl rfl
      · have hex : ∃ g cap, v = .slice (some ⟨g, 0, none⟩) i cap := by
          rcases hown.2 with ⟨_, h0⟩ | ⟨g, cap, cur, hv, _⟩
          · exact absurd h0 hk0
          · exact ⟨g, cap, hv⟩
        obtain ⟨g, cap, hv⟩ := hex
        rw [hv] at hva hown
        obtain ⟨hgb, hrf⟩ := rowF_of_own hown hl
        have v0 := hva.cell0
        have cs := hid fun W (hh : W.heap = wr.heap) => shuffle_any r b hi' lo' w.heap.size g i cap (fun j => L.getD j 0) N W (hra.of_block (by rw [hh])) (hpc.of_block (by rw [hh])) h1' h2' (hva.of_block (by rw [hh])) (hrf.of_block (by rw [hh])) (good_of hl hrg hnd) (by omega) (by omega) (by omega) (by omega) (by omega) (by omega)
        have FIN : Hid (∀ W, W.heap = wr.heap → W.os = wr.os → W.tape = wr.tape → W.output = wr.output → ∀ w', ShufPost g b i N W (.returned (.tuple #[])) w' → VarAt w' w.heap.size (.slice (some ⟨g, 0, none⟩) i cap) ∧ DistPost s r b N i w (.returned (.slice (some ⟨g, 0, none⟩) i cap)) w') := by
          intro W e1 e2 e3 e4 w' hpost
          obtain ⟨_, f', hi2, lo2, p1, p2, p3, p4, p5, p6⟩ := hpost
          have bw : Buts [s, b] w W := ⟨e2.trans hbu.os, e3.trans hbu.tape, e4.trans hbu.output, by rw [e1]; exact hbu.size, fun q hq hL => by rw [e1]; exact hbu.block q hq hL⟩
          have ob : ∀ q : Nat, q < wr.heap.size → q ≠ g → q ≠ b → w'.heap[q]? = wr.heap[q]? := fun q hq h1 h2 => by
            rw [← e1]
            exact p6.block q (by rw [e1]; exact hq) (by simp; exact ⟨h1, h2⟩)
          refine ⟨hva.of_block (ob _ hva.lt (by omega) (by omega)), ?_⟩
          exact ⟨_, _, hi2, lo2, rfl, hsa.of_block (ob _ hsa.lt (by omega) hsb), hra.of_block (ob _ hra.lt (by omega) (apart_rb hra hpc)), p3, p4, p5, bw.join p6 (by simp; omega), .inr ⟨by omega, g, cap, f', rfl, by omega, p2, p1⟩⟩
        clear hl hrg hnd hva hown hsa hrow hra hpc hbu hnil hv hrf c1 c2 f1 f2
        go_wp2_with fail
        go_region_with (go_at_call 33; refine (cs.out wr.drew rfl).mono ?_; intro e w5 hpost; have he := hpost.1; subst he; obtain ⟨va5, dp5⟩ := FIN.out wr.drew rfl rfl rfl rfl _ hpost; have v5 := va5.cell0; have DP := hid dp5; clear hpost va5 dp5)
        all_goals
          go_wp2_with fail
          go_ret
          exact DP.out
end Go.Proofs.Qxb6615739a
