/- (*Sampler).Distinct at nothing, and DistinctBut, at this seat's dump. -/
import Derived.Test.Qxb6615739aDist
namespace Go.Proofs.Qxb6615739a
open Go.RowKit
set_option linter.unusedVariables false

theorem sam_rand {w : World} {s r b rd : Nat} {mk room : Value} (h1 : SamAt w s r mk rd room) (h2 : RandAt w r b) : s ≠ r := by
  intro e
  unfold SamAt at h1
  unfold RandAt at h2
  rw [← e, h1] at h2
  simp at h2
theorem sam_pcg {w : World} {s r b rd hi lo : Nat} {mk room : Value} (h1 : SamAt w s r mk rd room) (h2 : PcgAt w b hi lo) : s ≠ b := by
  intro e
  unfold SamAt at h1
  unfold PcgAt at h2
  rw [← e, h1] at h2
  simp at h2

set_option maxRecDepth 10000 in
set_option maxHeartbeats 1000000 in
theorem dist_zero (s r b hi lo : Nat) (w : World) (hs : SamAt w s r (.slice none 0 0) 0 (.slice none 0 0)) (hr : RandAt w r b) (hb : PcgAt w b hi lo) (hhi : hi < 18446744073709551616) (hlo : lo < 18446744073709551616) :
    Calls Try.prog 28 #[.pointer (some ⟨s, 0, none⟩), .slice none 0 0, .int .i64 0, .int .i64 0] w (DistPost s r b 0 0 w) := by
  have c0 := hs.cell0
  have c1 := hs.cell1
  have c2 := hs.cell2
  have f2 := hs.frozen 2
  have hslt := hs.lt
  have S1 : SamAt ((w.setCell ⟨s, 2, none⟩ (.int .u64 1)).alloc (.cells #[.slice none 0 0] 23)) s r (.slice none 0 0) 1 (.slice none 0 0) := (hs.set2 1).of_block (heap_under _ _ _ (by simp; omega))
  have B1 : Buts [s, b] w ((w.setCell ⟨s, 2, none⟩ (.int .u64 1)).alloc (.cells #[.slice none 0 0] 23)) := ((Buts.refl _ _).setCell (p := ⟨s, 2, none⟩) (by simp) _).alloc _
  have R1 : RandAt ((w.setCell ⟨s, 2, none⟩ (.int .u64 1)).alloc (.cells #[.slice none 0 0] 23)) r b := hr.of_block ((heap_under _ _ _ (by simp; exact hr.lt)).trans (Below.heap_setCell _ _ _ _ (fun e => sam_rand hs hr e.symm)))
  have P1 : PcgAt ((w.setCell ⟨s, 2, none⟩ (.int .u64 1)).alloc (.cells #[.slice none 0 0] 23)) b hi lo := hb.of_block ((heap_under _ _ _ (by simp; exact hb.lt)).trans (Below.heap_setCell _ _ _ _ (fun e => sam_pcg hs hb e.symm)))
  have FIN : Hid (∀ w', w'.heap = ((w.setCell ⟨s, 2, none⟩ (.int .u64 1)).alloc (.cells #[.slice none 0 0] 23)).heap → w'.os = w.os → w'.tape = w.tape → w'.output = w.output → DistPost s r b 0 0 w (.returned (.slice none 0 0)) w') := by
    intro w' e1 e2 e3 e4
    have ob : ∀ q : Nat, w'.heap[q]? = ((w.setCell ⟨s, 2, none⟩ (.int .u64 1)).alloc (.cells #[.slice none 0 0] 23)).heap[q]? := fun q => by rw [e1]
    exact ⟨_, _, hi, lo, rfl, S1.of_block (ob _), R1.of_block (ob _), P1.of_block (ob _), hhi, hlo, ⟨e2, e3, e4, by rw [e1]; exact B1.size, fun q hq hL => (ob q).trans (B1.block q hq hL)⟩, .inl ⟨rfl, rfl⟩⟩
  clear hs hr hb S1 B1 R1 P1
  go_enter Try.func28, Try.ntmps28
  go_wp2_with fail
  go_loop [9] (fun j => j = .int .i64 0) (fun _ => 0)
  case atStart => rfl
  case round =>
    subst hrel
    go_wp2_with fail
    go_region_with (go_at_call 33; refine (shuffle_nil r _ _).mono ?_; rintro e w5 ⟨rfl, hw5⟩; rw [hw5]; clear hw5)
    all_goals
      go_wp2_with fail
      go_ret
      exact FIN.out _ rfl rfl rfl rfl

theorem dist_any (s r b hi lo N k : Nat) (w : World) (hs : SamAt w s r (.slice none 0 0) 0 (.slice none 0 0)) (hr : RandAt w r b) (hb : PcgAt w b hi lo) (hhi : hi < 18446744073709551616) (hlo : lo < 18446744073709551616)
    (hN2 : N ≤ 65536) (hk : k ≤ N) :
    Calls Try.prog 28 #[.pointer (some ⟨s, 0, none⟩), .slice none 0 0, .int .i64 N, .int .i64 k] w (DistPost s r b N k w) := by
  by_cases h0 : N = 0
  · subst h0
    obtain rfl : k = 0 := by omega
    exact dist_zero s r b hi lo w hs hr hb hhi hlo
  · exact dist_some s r b hi lo N k w hs hr hb hhi hlo (by omega) hN2 hk

/-- One up where it is not below but. -/
def up (but x : Int) : Int := if but ≤ x then x + 1 else x
theorem up_good {f : Nat → Int} {k N : Nat} {but : Int} (h : Good f k N) : Good (fun i => up but (f i)) k ((N : Int) + 1) ∧ ∀ i, i < k → up but (f i) ≠ but := by
  refine ⟨⟨fun i hi => ?_, fun i j hi hj e => ?_⟩, fun i hi => ?_⟩
  · have := h.1 i hi
    show 0 ≤ up but (f i) ∧ up but (f i) < (N : Int) + 1
    unfold up
    split <;> omega
  · refine h.2 i j hi hj ?_
    have e' : up but (f i) = up but (f j) := e
    unfold up at e'
    split at e' <;> split at e' <;> omega
  · unfold up
    split <;> omega

/-- What DistinctBut leaves. -/
def ButPost (s r b N k : Nat) (but : Int) (w : World) (e : Ending) (w' : World) : Prop :=
  ∃ (v mk : Value) (hi lo : Nat), e = .returned v ∧ SamAt w' s r mk 1 (.slice none 0 0) ∧ RandAt w' r b ∧ PcgAt w' b hi lo ∧ hi < 18446744073709551616 ∧ lo < 18446744073709551616 ∧ Buts [s, b] w w' ∧
    ((k = 0 ∧ v = .slice none 0 0) ∨ (1 ≤ k ∧ ∃ (g cap : Nat) (f : Nat → Int), v = .slice (some ⟨g, 0, none⟩) k cap ∧ w.heap.size ≤ g ∧ RowF w' g k f ∧ Good f k ((N : Int) + 1) ∧ ∀ i, i < k → f i ≠ but))

/-- The row after c rounds. -/
def half (but : Int) (f : Nat → Int) (c : Nat) : Nat → Int := fun j => if j < c then up but (f j) else f j
theorem half_skip {but : Int} {f : Nat → Int} {c : Nat} (h : f c < but) (j : Nat) : half but f c j = half but f (c + 1) j := by
  unfold half
  by_cases h1 : j < c
  · rw [if_pos h1, if_pos (by omega)]
  · rw [if_neg h1]
    by_cases h2 : j = c
    · subst h2
      rw [if_pos (by omega)]
      unfold up
      rw [if_neg (by omega)]
    · rw [if_neg (by omega)]
theorem half_set {but : Int} {f : Nat → Int} {c : Nat} (h : but ≤ f c) (j : Nat) : (if j = c then f c + 1 else half but f c j) = half but f (c + 1) j := by
  unfold half
  by_cases h2 : j = c
  · subst h2
    rw [if_pos rfl, if_pos (by omega)]
    unfold up
    rw [if_pos h]
  · rw [if_neg h2]
    by_cases h1 : j < c
    · rw [if_pos h1, if_pos (by omega)]
    · rw [if_neg h1, if_neg (by omega)]

set_option maxRecDepth 10000 in
set_option maxHeartbeats 1000000 in
theorem distbut_any (s r b hi lo N k : Nat) (but : Int) (w : World) (hs : SamAt w s r (.slice none 0 0) 0 (.slice none 0 0)) (hr : RandAt w r b) (hb : PcgAt w b hi lo) (hhi : hi < 18446744073709551616) (hlo : lo < 18446744073709551616)
    (hN2 : N ≤ 65535) (hk : k ≤ N) (hb0 : 0 ≤ but) (hbN : but ≤ N) :
    Calls Try.prog 13 #[.pointer (some ⟨s, 0, none⟩), .slice none 0 0, .int .i64 ((N : Int) + 1), .int .i64 k, .int .i64 but] w (ButPost s r b N k but w) := by
  have cd := hid (dist_any s r b hi lo N k w hs hr hb hhi hlo (by omega) hk)
  have HP := hid hb.lt
  have HS := hid hs.lt
  have HR := hid hr.lt
  clear hs hr hb
  go_enter Try.func13, Try.ntmps13
  go_wp2_with fail
  refine cd.out.mono ?_
  intro e w1 hpost
  obtain ⟨v, mk, hi1, lo1, rfl, p1, p2, p3, p4, p5, p6, p7⟩ := hpost
  have D1 := hid p1
  have D2 := hid p2
  have D3 := hid p3
  have D6 := hid p6
  clear p1 p2 p3 p6
  rcases p7 with ⟨h0, hv⟩ | ⟨h1, g, cap, f, hv, hgw, hrow, hgood⟩
  · subst h0
    rw [hv]
    clear hv
    go_wp2_with fail
    go_loop [21] (fun j => j = .int .i64 0) (fun _ => 0)
    case atStart => rfl
    case round =>
      subst hrel
      go_wp2_with fail
      go_ret
      exact ⟨_, mk, hi1, lo1, rfl, D1.out, D2.out, D3.out, p4, p5, D6.out, .inl ⟨rfl, rfl⟩⟩
  · rw [hv]
    clear hv
    have HG := hid hgood
    have HW := hid hrow
    clear hgood hrow
    go_wp2_with fail
    go_loopg [21] k (fun gn i wr => ∃ c : Nat, c + gn = k ∧ i = .int .i64 c ∧ RowF wr g k (half but f c) ∧ But g w1 wr)
    case atStart => exact ⟨0, by omega, rfl, HW.out.congr (fun j _ => by simp [half]), But.refl _ _⟩
    case round =>
      obtain ⟨c, hc, rfl, hrw, hbt⟩ := hrel
      by_cases hck : c < k
      · have hcell : wr.cell? ⟨g, c, none⟩ = some (.int .i64 (half but f c c)) := hrw.cell hck
        have hfr := hrw.frozen c
        have hhc : half but f c c = f c := by unfold half; rw [if_neg (by omega)]
        rw [hhc] at hcell
        have RW := hid hrw
        have BT := hid hbt
        have gr := HG.out.1 c hck
        have gr1 := gr.1
        have gr2 := gr.2
        clear hrw hbt hhc gr
        generalize hfc : f c = y at *
        by_cases hge : but ≤ y
        · have FC := hid hfc
          clear hfc
          go_wp2_with fail
          go_roundg (gk - 1)
          case measure => omega
          case rel =>
            refine ⟨c + 1, by omega, by go_num, ?_, BT.out.setCell (p := ⟨g, c, none⟩) rfl _⟩
            refine (RW.out.set c (y + 1)).congr (fun j _ => ?_)
            rw [← FC.out]
            exact half_set (by rw [FC.out]; exact hge) j
        · have FC := hid hfc
          clear hfc
          go_wp2_with fail
          go_roundg (gk - 1)
          case measure => omega
          case rel =>
            refine ⟨c + 1, by omega, by go_num, ?_, BT.out⟩
            exact RW.out.congr (fun j _ => half_skip (by rw [FC.out]; omega) j)
      · obtain rfl : c = k := by omega
        have RW := hid hrw
        have BT := hid hbt
        clear hrw hbt
        go_wp2_with fail
        go_ret
        have hp := HP.out
        have hS := HS.out
        have hR := HR.out
        have gg := up_good (but := but) HG.out
        refine ⟨_, mk, hi1, lo1, rfl, D1.out.of_block (BT.out.block s D1.out.lt (by omega)), D2.out.of_block (BT.out.block r D2.out.lt (by omega)), D3.out.of_block (BT.out.block b D3.out.lt (by omega)), p4, p5, D6.out.join (BT.out.buts (L := [g]) (by simp)) (by simp; omega), .inr ⟨h1, g, cap, fun i => up but (f i), rfl, hgw, ?_, gg.1, gg.2⟩⟩
        exact RW.out.congr (fun j hj => by unfold half; rw [if_pos hj])
end Go.Proofs.Qxb6615739a
