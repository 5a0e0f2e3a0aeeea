/- zzBuildEnrollees, at this seat's dump. -/
import Derived.Test.Qxb6608960aWa
import Derived.Deep.RegionHeld3
import Derived.Deep.AppendLies
namespace Go.Proofs.Qxb6608960a
open Go.RowKit
set_option linter.unusedVariables false

/-- The cells of the first k enrollees. -/
def flat (Z : Nat → Nat → Int) : Nat → List Value
  | 0 => []
  | k + 1 => flat Z k ++ [.int .i64 (Z k 0), .int .i64 (Z k 1), .int .i64 (Z k 2), .int .i64 (Z k 3)]
theorem flat_length (Z : Nat → Nat → Int) (k : Nat) : (flat Z k).length = k * 4 := by
  induction k with
  | zero => rfl
  | succ k ih => simp [flat, ih]; omega
theorem flat_get (Z : Nat → Nat → Int) (k i j : Nat) (hi : i < k) (hj : j < 4) : (flat Z k)[i * 4 + j]? = some (.int .i64 (Z i j)) := by
  induction k with
  | zero => omega
  | succ k ih =>
    unfold flat
    by_cases e : i = k
    · subst e
      rw [List.getElem?_append_right (by rw [flat_length]; omega), flat_length]
      have hj' : j = 0 ∨ j = 1 ∨ j = 2 ∨ j = 3 := by omega
      rcases hj' with rfl | rfl | rfl | rfl <;> simp
    · rw [List.getElem?_append_left (by rw [flat_length]; omega)]
      exact ih (by omega)
theorem owns_rd {w : World} {base e g n cap : Nat} {Z : Nat → Nat → Int} (h : w.ownsRow base e 4 (.slice (some ⟨g, 0, none⟩) n cap) n (flat Z n)) : Rd w g 0 n Z ∧ n ≤ cap ∧ base ≤ g ∧ g < w.heap.size := by
  have hc := h.cells (g := g) rfl
  have hl := h.lt g rfl
  refine ⟨fun i hi j hj => ?_, ?_, hl.1, hl.2⟩
  · have := hc (i * 4 + j) _ (flat_get Z n i j hi hj)
    rwa [show (⟨g, 0, none⟩ : Addr).add (i * 4 + j) = ⟨g, 0 + i * 4 + j, none⟩ by unfold Addr.add; split <;> simp_all] at this
  · rcases h.2 with ⟨h0, _⟩ | ⟨g', cap', cur, hv, _, _, hn, _⟩
    · cases h0
    · injection hv with _ _ hcap
      omega

theorem one4 (p0 p1 p2 p3 : Int) : ∀ u ∈ [Value.int .i64 p0, .int .i64 p1, .int .i64 p2, .int .i64 p3], u.oneCell' = true := by
  intro u hu
  simp at hu
  rcases hu with rfl | rfl | rfl | rfl <;> rfl
/-- The world behind ZZnewEnrollee and the laying of its element. -/
abbrev laid2 (w : World) (p0 p1 p2 p3 : Int) : World := (w.drew.alloc (.cells #[.int .i64 p0, .int .i64 p1, .int .i64 p2, .int .i64 p3] 68)).alloc (.cells #[.int .i64 p0, .int .i64 p1, .int .i64 p2, .int .i64 p3] 68)
theorem ow2 {w : World} {B e size n : Nat} {v : Value} {xs : List Value} (h : w.ownsRow B e size v n xs) (p0 p1 p2 p3 : Int) : (laid2 w p0 p1 p2 p3).ownsRow B e size v n xs :=
  World.ownsRow.alloc (World.ownsRow.alloc (w := w.drew) h _) _
theorem nw2 (w : World) (p0 p1 p2 p3 : Int) : ∀ j u, [Value.int .i64 p0, .int .i64 p1, .int .i64 p2, .int .i64 p3][j]? = some u → (laid2 w p0 p1 p2 p3).cell? ((⟨w.heap.size + 1, 0, none⟩ : Addr).add j) = some u := by
  have hb : (laid2 w p0 p1 p2 p3).heap[w.heap.size + 1]? = some (.cells #[.int .i64 p0, .int .i64 p1, .int .i64 p2, .int .i64 p3] 68 (0, 0)) := by
    have := heap_alloc_new (w.drew.alloc (.cells #[.int .i64 p0, .int .i64 p1, .int .i64 p2, .int .i64 p3] 68)) (.cells #[.int .i64 p0, .int .i64 p1, .int .i64 p2, .int .i64 p3] 68)
    simpa using this
  exact World.news_of_block hb
theorem cl2 {w wr : World} {b e size g k cap : Nat} {xs : List Value} (hb : Below w.heap.size w wr) (h : wr.ownsRow w.heap.size e size (.slice (some ⟨g, 0, none⟩) k cap) k xs) (hbw : b < w.heap.size) :
    ∀ (Z : Int × Int × Int × Int) (w1 : World), (laid2 wr Z.1 Z.2.1 Z.2.2.1 Z.2.2.2).grownBy w1 (some g) → ∀ i, w1.cell? ⟨b, i, none⟩ = wr.cell? ⟨b, i, none⟩ := by
  intro Z w1 hg i
  have hs := hb.size
  have h1 := hg.cell_far ⟨b, i, none⟩ (by simp; omega) (by have := (h.lt g rfl).1; simp; omega)
  rw [h1]
  apply World.cell?_of_block
  show ((wr.drew.alloc _).alloc _).heap[b]? = wr.heap[b]?
  rw [Below.heap_alloc _ _ _ (by simp; omega), Below.heap_alloc _ _ _ (by show b < wr.heap.size; omega)]
  rfl

theorem be2 {w wr w1 : World} {g : Nat} {p0 p1 p2 p3 : Int} (hb : Below w.heap.size w wr) (hg : (laid2 wr p0 p1 p2 p3).grownBy w1 (some g)) (h : w.heap.size ≤ g) : Below w.heap.size w w1 := by
  have hs := hb.size
  exact ((hb.drew.alloc hs _).alloc (by simp; omega) _).grown hg (by simp; omega) (fun k hk => by injection hk; omega)

/-- What zzBuildEnrollees leaves: the same numbers, in a block of its own. -/
def BuildPost (n : Nat) (Z : Nat → Nat → Int) (w : World) (e : Ending) (w' : World) : Prop :=
  ∃ g cap, e = .returned (.slice (some ⟨g, 0, none⟩) n cap) ∧ n ≤ cap ∧ g < w'.heap.size ∧ Rd w' g 0 n Z ∧ Below w.heap.size w w'

set_option maxHeartbeats 2000000 in
theorem build_any (b o n c : Nat) (Z : Nat → Nat → Int) (w : World) (hm : n ≤ 32769) (hbw : b < w.heap.size) (hr : Rd w b o n Z) :
    Calls Try.prog 13 #[.slice (some ⟨b, o, none⟩) n c] w (BuildPost n Z w) := by
  have hmk : ∀ w : World, (Instr.makeSlice 36 (.int .i64 0) (.int .i64 (n : Int))).run Try.prog w = .ok (.slice (some ⟨w.heap.size, 0, none⟩) 0 n) (w.alloc (.cells (madeCells #[.int .i64 0] (4 * n)) 68)) := run_make_four 36 68 Try.underlying36 info68 0 n (Nat.zero_le _) (by omega)
  obtain ⟨i0, hi0, hzz⟩ := Option.map_eq_some_iff.1 info68
  simp only [Prod.mk.injEq] at hzz
  obtain ⟨hz0, hz1, hz2⟩ := hzz
  have HR := hid hr
  clear hr
  go_enter Try.func13, Try.ntmps13
  go_wp2_with fail
  go_loopg [3, 4] n (fun gn v i wr => ∃ k g cap : Nat, k + gn = n ∧ i = .int .i64 k ∧ v = .slice (some ⟨g, 0, none⟩) k cap ∧ Below w.heap.size w wr ∧ wr.ownsRow w.heap.size 68 4 (.slice (some ⟨g, 0, none⟩) k cap) k (flat Z k))
  case atStart => exact ⟨0, w.heap.size, n, by omega, rfl, rfl, (Below.refl _ _).alloc (Nat.le_refl _) _, World.ownsRow_made w _ n (Nat.le_refl _) (by unfold maxLen; omega) (by rw [size_madeCells]; omega)⟩
  case round =>
    obtain ⟨k, g, cap, hk, rfl, rfl, hb, own⟩ := hrel
    by_cases hlt : k < n
    · have r0 : wr.cell? ⟨b, o + k * 4, none⟩ = some (.int .i64 (Z k 0)) := (hb.cell (p := ⟨b, o + k * 4, none⟩) hbw).trans (HR.out k hlt 0 (by omega))
      have r1 : wr.cell? ⟨b, o + k * 4 + 1, none⟩ = some (.int .i64 (Z k 1)) := (hb.cell (p := ⟨b, o + k * 4 + 1, none⟩) hbw).trans (HR.out k hlt 1 (by omega))
      have r2 : wr.cell? ⟨b, o + k * 4 + 2, none⟩ = some (.int .i64 (Z k 2)) := (hb.cell (p := ⟨b, o + k * 4 + 2, none⟩) hbw).trans (HR.out k hlt 2 (by omega))
      have r3 : wr.cell? ⟨b, o + k * 4 + 3, none⟩ = some (.int .i64 (Z k 3)) := (hb.cell (p := ⟨b, o + k * 4 + 3, none⟩) hbw).trans (HR.out k hlt 3 (by omega))
      have SZ : w.heap.size ≤ wr.heap.size := hb.size
      have HB := hid hb
      have HK := hid hk
      have OW2 := hid (ow2 own (Z k 0) (Z k 1) (Z k 2) (Z k 3))
      have NW2 := hid (nw2 wr (Z k 0) (Z k 1) (Z k 2) (Z k 3))
      have CL := hid (cl2 (b := b) hb own hbw)
      have GE := hid (own.lt g rfl).1
      clear hb own hk
      go_wp2_with fail
      go_region_held3 (fun w' => w'.cell? ⟨b, o + k * 4, none⟩ = some (.int .i64 (Z k 0)) ∧ w'.cell? ⟨b, o + k * 4 + 1, none⟩ = some (.int .i64 (Z k 1)) ∧ w'.cell? ⟨b, o + k * 4 + 2, none⟩ = some (.int .i64 (Z k 2)) ∧ w'.cell? ⟨b, o + k * 4 + 3, none⟩ = some (.int .i64 (Z k 3)))
        (first | go_keep | exact ⟨(CL.out (Z k 0, Z k 1, Z k 2, Z k 3) w1 hgrow _).trans r0, (CL.out (Z k 0, Z k 1, Z k 2, Z k 3) w1 hgrow _).trans r1, (CL.out (Z k 0, Z k 1, Z k 2, Z k 3) w1 hgrow _).trans r2, (CL.out (Z k 0, Z k 1, Z k 2, Z k 3) w1 hgrow _).trans r3⟩)
        (first
          | (go_at_call 25; refine (new_any _ _ _ _ _).mono ?_; rintro e w' ⟨rfl, rfl⟩)
          | (refine step_append_lies _ rfl (.tmp 14) (.tmp 36) 36 rfl w.heap.size 68 i0 (.agg #[.int .i64 0, .int .i64 0, .int .i64 0, .int .i64 0]) 4 32 Try.underlying36 hi0 hz0 hz1 hz2 rfl (by decide) (.slice (some ⟨g, 0, none⟩) k cap) k (flat Z k) (by simp [Act.eval]) OW2.out ⟨wr.heap.size + 1, 0, none⟩ 1 1 [.int .i64 (Z k 0), .int .i64 (Z k 1), .int .i64 (Z k 2), .int .i64 (Z k 3)] (by simp [Act.eval]) rfl NW2.out (one4 _ _ _ _) (by decide) (by unfold maxLen; omega) (by omega) (by simp; omega) _ rfl ?_; intro g1 cap1 w1 hown hgrow hat hlt1))
      have OW := hid hown
      have GR : Hid (Below w.heap.size w w1) := be2 HB.out hgrow GE.out
      clear hown hgrow hat hlt1 r0 r1 r2 r3
      go_wp2_with fail
      go_roundg (gk - 1)
      case measure => have := HK.out; omega
      case rel => exact ⟨k + 1, g1, cap1, by have := HK.out; omega, by go_num, rfl, GR.out, OW.out⟩
    · have hkl : k = n := by omega
      subst hkl
      have HB := hid hb
      have HO := hid own
      clear hb own hk
      go_wp2_with fail
      go_ret
      obtain ⟨q1, q2, q3, q4⟩ := owns_rd HO.out
      exact ⟨g, cap, rfl, q2, q4, q1, HB.out⟩
end Go.Proofs.Qxb6608960a
