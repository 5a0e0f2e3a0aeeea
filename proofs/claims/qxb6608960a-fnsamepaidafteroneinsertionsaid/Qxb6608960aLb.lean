/- FnSamePaidAfterOneInsertion, at this seat's dump. -/
import Derived.Test.Qxb6608960aLa
import Derived.BigQuiet
import Derived.Laws.AppendOwn
namespace Go.Proofs.Qxb6608960a
open Go.RowKit
set_option linter.unusedVariables false

/-- The value of an enrollee. -/
abbrev agg4 (x0 x1 x2 x3 : Int) : Value := .agg #[.int .i64 x0, .int .i64 x1, .int .i64 x2, .int .i64 x3]
theorem bytes5_any (s : Option Addr) (n c : Nat) (at_ x0 x1 x2 x3 : Int) (w : World) (hn : n ≤ 1048576) :
    Calls Try.prog 14 #[.slice s n c, .int .i64 at_, agg4 x0 x1 x2 x3] w fun e w' => e = .returned (.bool true) ∧ w' = w.alloc (.cells #[.int .i64 x0, .int .i64 x1, .int .i64 x2, .int .i64 x3] 33) := by
  go_enter Try.func14, Try.ntmps14
  go_wp2
  go_ret
  exact ⟨rfl, rfl⟩
theorem bytes5_big (s : Option Addr) (n c : Nat) (at_ x0 x1 x2 x3 : Int) (w : World) (hn : 1048576 < n) :
    Calls Try.prog 14 #[.slice s n c, .int .i64 at_, agg4 x0 x1 x2 x3] w fun e w' => e = .returned (.bool false) ∧ w' = w.alloc (.cells #[.int .i64 x0, .int .i64 x1, .int .i64 x2, .int .i64 x3] 33) := by
  go_enter Try.func14, Try.ntmps14
  go_wp2
  go_ret
  exact ⟨rfl, rfl⟩
theorem zz_paid' (b o n c : Nat) (Z : Nat → Nat → Int) (w : World) (hn : 0 < n) (hnc : n ≤ c) (hm : n ≤ 32769) (hbw : b < w.heap.size) (hr : Rd w b o n Z) (ok : Bool) (hok : ok = true ↔ AllEq n 1 Z) (v : Int) (hv : v = if ok then Z 0 1 else 0) :
    Calls Try.prog 15 #[.slice (some ⟨b, o, none⟩) n c] w fun e w' => e = .returned (.tuple #[.int .i64 v, .bool ok]) ∧ Below w.heap.size w w' := by
  rw [hv]; exact zz_paid b o n c Z w hn hnc hm hbw hr ok hok

/-- The grown list: x put in at place t. -/
def ins (Z : Nat → Nat → Int) (t : Nat) (X : Nat → Int) : Nat → Nat → Int := fun i j => if i < t then Z i j else if i = t then X j else Z (i - 1) j
/-- The four numbers of x. -/
def col (x0 x1 x2 x3 : Int) : Nat → Int
  | 0 => x0
  | 1 => x1
  | 2 => x2
  | _ => x3
theorem flat_snoc (Z : Nat → Nat → Int) (k : Nat) {p0 p1 p2 p3 : Int} (h0 : Z k 0 = p0) (h1 : Z k 1 = p1) (h2 : Z k 2 = p2) (h3 : Z k 3 = p3) :
    flat Z k ++ [.int .i64 p0, .int .i64 p1, .int .i64 p2, .int .i64 p3] = flat Z (k + 1) := by
  subst h0 h1 h2 h3; rfl
theorem ins_lo {Z : Nat → Nat → Int} {t k : Nat} {X : Nat → Int} (h : k < t) (j : Nat) : ins Z t X k j = Z k j := by unfold ins; rw [if_pos h]
theorem ins_at {Z : Nat → Nat → Int} {t : Nat} {X : Nat → Int} (j : Nat) : ins Z t X t j = X j := by unfold ins; rw [if_neg (by omega), if_pos rfl]
theorem ins_hi {Z : Nat → Nat → Int} {t k : Nat} {X : Nat → Int} (h : t ≤ k) (j : Nat) : ins Z t X (k + 1) j = Z k j := by unfold ins; rw [if_neg (by omega), if_neg (by omega)]; rfl
theorem ins_all {Z : Nat → Nat → Int} {t n : Nat} {X : Nat → Int} (hn : 0 < n) (ht : t ≤ n) : AllEq (n + 1) 1 (ins Z t X) ↔ AllEq n 1 Z ∧ X 1 = Z 0 1 := by
  constructor
  · intro h
    have hz : ∀ i, i < n → Z i 1 = ins Z t X 0 1 := by
      intro i hi
      rcases Nat.lt_or_ge i t with h1 | h1
      · rw [← h i (by omega), ins_lo h1]
      · rw [← h (i + 1) (by omega), ins_hi h1]
    refine ⟨fun i hi => by rw [hz i hi, hz 0 hn], ?_⟩
    rw [← ins_at (Z := Z) (t := t) (X := X) 1, h t (by omega), hz 0 hn]
  · rintro ⟨h, hx⟩
    have hz : ∀ i, i < n + 1 → ins Z t X i 1 = Z 0 1 := by
      intro i hi
      rcases Nat.lt_trichotomy i t with h1 | h1 | h1
      · rw [ins_lo h1]; exact h i (by omega)
      · subst h1; rw [ins_at]; exact hx
      · obtain ⟨m, rfl⟩ : ∃ m, i = m + 1 := ⟨i - 1, by omega⟩
        rw [ins_hi (by omega)]; exact h m (by omega)
    intro i hi
    rw [hz i hi, hz 0 (by omega)]
theorem ins_zero {Z : Nat → Nat → Int} {t n : Nat} {X : Nat → Int} (hn : 0 < n) (hx : X 1 = Z 0 1) : ins Z t X 0 1 = Z 0 1 := by
  by_cases h : t = 0
  · subst h; rw [ins_at]; exact hx
  · rw [ins_lo (by omega)]

/-- Every neighbouring pair of the first k + 1 pays alike. -/
def Chain (Z : Nat → Nat → Int) (k : Nat) : Prop := ∀ j, j < k → Z j 1 = Z (j + 1) 1
theorem Chain.all {Z : Nat → Nat → Int} {n : Nat} (h : Chain Z (n - 1)) : AllEq n 1 Z := by
  intro i
  induction i with
  | zero => intro _; rfl
  | succ i ih => intro hi; rw [← h i (by omega)]; exact ih (by omega)
theorem Chain.of_all {Z : Nat → Nat → Int} {n : Nat} (h : AllEq n 1 Z) : Chain Z (n - 1) := fun j hj => by rw [h j (by omega), h (j + 1) (by omega)]

theorem lies_cells {w : World} {B e g k cap : Nat} {Z : Nat → Nat → Int} (h : w.ownsRow B e 4 (.slice (some ⟨g, 0, none⟩) k cap) k (flat Z k)) : B ≤ g := (h.lt g rfl).1

/-- The world behind the laying of one element. -/
abbrev laid1 (w : World) (p0 p1 p2 p3 : Int) : World := w.alloc (.cells #[.int .i64 p0, .int .i64 p1, .int .i64 p2, .int .i64 p3] 33)
theorem nw1 (w : World) (p0 p1 p2 p3 : Int) : ∀ j u, [Value.int .i64 p0, .int .i64 p1, .int .i64 p2, .int .i64 p3][j]? = some u → (laid1 w p0 p1 p2 p3).cell? ((⟨w.heap.size, 0, none⟩ : Addr).add j) = some u := by
  have hb : (laid1 w p0 p1 p2 p3).heap[w.heap.size]? = some (.cells #[.int .i64 p0, .int .i64 p1, .int .i64 p2, .int .i64 p3] 33 (0, 0)) := heap_alloc_new w _
  exact World.news_of_block hb
theorem be1 {w wr w1 : World} {B g : Nat} {p0 p1 p2 p3 : Int} (hb : Below B w wr) (hB : B ≤ wr.heap.size) (hg : (laid1 wr p0 p1 p2 p3).grownBy w1 (some g)) (h : B ≤ g) : Below B w w1 :=
  (hb.alloc hB _).grown hg (by simp; omega) (fun k hk => by injection hk; omega)

set_option maxRecDepth 10000 in
set_option maxHeartbeats 8000000 in
theorem law5_yy (b o n c t : Nat) (x0 x1 x2 x3 : Int) (Z : Nat → Nat → Int) (w : World) (hn : 0 < n) (hm : n ≤ 32768) (hbw : b < w.heap.size) (hr : Rd w b o n Z) (ht : t ≤ n) (hy : AllEq n 1 Z ∧ x1 = Z 0 1) :
    Calls Try.prog 5 #[.slice (some ⟨b, o, none⟩) n c, .int .i64 t, agg4 x0 x1 x2 x3] w fun e w' => e = .returned (.bool true) ∧ Below w.heap.size w w' := by
  obtain ⟨i0, hi0, hzz⟩ := Option.map_eq_some_iff.1 info33
  simp only [Prod.mk.injEq] at hzz
  obtain ⟨hz0, hz1, hz2⟩ := hzz
  have hmk : ∀ w : World, (Instr.makeSlice 29 (.int .i64 0) (.int .i64 ((n : Int) + 1))).run Try.prog w = .ok (.slice (some ⟨w.heap.size, 0, none⟩) 0 (n + 1)) (w.alloc (.cells (madeCells #[.int .i64 0] (4 * (n + 1))) 33)) := run_make_four 29 33 Try.underlying29 info33 0 (n + 1) (Nat.zero_le _) (by omega)
  have HR := hid hr
  have HY := hid hy
  clear hr hy
  go_enter Try.func5, Try.ntmps5
  go_wp2_with fail
  refine (bytes5_any _ _ _ _ _ _ _ _ _ (by omega)).mono ?_
  rintro e w2 ⟨rfl, hw2⟩
  have hs2 : w2.heap.size = w.heap.size + 2 := by rw [hw2]; simp
  have hb2 : Below w.heap.size w w2 := by rw [hw2]; exact ((Below.refl _ _).alloc (Nat.le_refl _) _).alloc (by simp) _
  have y0 : w2.cell? ⟨w.heap.size, 0, none⟩ = some (.int .i64 x0) := by rw [hw2]; simp [go_sem]
  have y1 : w2.cell? ⟨w.heap.size, 1, none⟩ = some (.int .i64 x1) := by rw [hw2]; simp [go_sem]
  have y2 : w2.cell? ⟨w.heap.size, 2, none⟩ = some (.int .i64 x2) := by rw [hw2]; simp [go_sem]
  have y3 : w2.cell? ⟨w.heap.size, 3, none⟩ = some (.int .i64 x3) := by rw [hw2]; simp [go_sem]
  have HS2 := hid hs2
  have hl2 : b < w2.heap.size := by omega
  have HL2 : Hid (w.heap.size < w2.heap.size) := by rw [hs2]; show w.heap.size < w.heap.size + 2; omega
  clear hs2
  have HB2 := hid hb2
  have HR2 := hid (HR.out.below hbw hb2)
  have Y0 := hid y0
  have Y1 := hid y1
  have Y2 := hid y2
  have Y3 := hid y3
  clear hb2 hw2 HR y0 y1 y2 y3
  have d1 : ((n : Int) == 0) = false := by rw [beq_eq_false_iff_ne]; omega
  have d2 : decide ((t : Int) < 0) = false := by simp
  have d3 : decide (n < t) = false := by simp; omega
  have d4 : decide ((n : Int) < t) = false := by simp; omega
  go_wp2_with fail
  refine (clone_any b o n c Z _ hn hm hl2 HR2.out).mono ?_
  rintro e w3 ⟨rfl, hr3, hb3⟩
  have hs3 : w2.heap.size < w3.heap.size := block_lt_of_cell (hr3 0 hn 0 (by omega))
  have HR3 := hid hr3
  have HB3 := hid hb3
  clear hr3 hb3 HR2
  go_wp2_with fail
  go_loopg [7, 8] (n - 1) (fun gn vc i wr => ∃ (k : Nat) (ch : Bool), k + gn = n - 1 ∧ i = .int .i64 k ∧ vc = .bool ch ∧ (ch = true ↔ Chain Z k) ∧ Below w3.heap.size w3 wr)
  case atStart => exact ⟨0, true, by omega, rfl, rfl, by simp [Chain], Below.refl _ _⟩
  case round =>
    obtain ⟨k, ch, hk, rfl, rfl, hch, hb⟩ := hrel
    have HCH := hid hch
    have HB := hid hb
    have hsr : w3.heap.size ≤ wr.heap.size := hb.size
    have hrr := HR3.out.below hs3 hb
    clear hch hb
    by_cases hlt : k + 1 < n
    · have r0 : wr.cell? ⟨w2.heap.size, k * 4 + 1, none⟩ = some (.int .i64 (Z k 1)) := by have := hrr k (by omega) 1 (by omega); simpa using this
      have r1 : wr.cell? ⟨w2.heap.size, (k + 1) * 4 + 1, none⟩ = some (.int .i64 (Z (k + 1) 1)) := by have := hrr (k + 1) (by omega) 1 (by omega); simpa using this
      clear hrr
      have k1 : k < n := by omega
      have k2 : (k : Int) + 1 < n := by omega
      by_cases he : Z k 1 = Z (k + 1) 1
      · have he' : (Z k 1 == Z (k + 1) 1) = true := by simp [he]
        have HE := hid he
        clear he
        go_wp2_with fail
        go_quiet (fail)
        go_wp2_with fail
        go_roundg (gk - 1)
        case measure => omega
        case rel => exact ⟨k + 1, ch, by omega, by go_num, rfl, HCH.out.trans ⟨fun h j hj => by rcases Nat.lt_or_ge j k with h' | h'; exact h j h'; rw [show j = k by omega]; exact HE.out, fun h j hj => h j (by omega)⟩, HB.out.trans ⟨rfl, rfl, rfl, Nat.le_refl _, fun _ _ => rfl⟩⟩
      · have he' : (Z k 1 == Z (k + 1) 1) = false := by simp [he]
        have HE := hid he
        clear he
        go_wp2_with fail
        go_quiet (fail)
        go_wp2_with fail
        go_roundg (gk - 1)
        case measure => omega
        case rel => exact ⟨k + 1, false, by omega, by go_num, rfl, ⟨fun h => (by cases h), fun h => absurd (h k (by omega)) HE.out⟩, HB.out.trans ⟨rfl, rfl, rfl, Nat.le_refl _, fun _ _ => rfl⟩⟩
    · have hkn : k = n - 1 := by omega
      subst hkn
      obtain rfl : ch = true := HCH.out.2 (by exact Chain.of_all HY.out.1)
      have hdec : decide ((((n - 1 : Nat) : Int)) + 1 < (n : Int)) = false := by simp; omega
      have rl : wr.cell? ⟨w2.heap.size, (n - 1) * 4 + 1, none⟩ = some (.int .i64 (Z 0 1)) := by
        have := hrr (n - 1) (by omega) 1 (by omega)
        rw [HY.out.1 (n - 1) (by omega)] at this
        simpa using this
      have HRR := hid hrr
      have HSR : Hid (w2.heap.size < wr.heap.size) := Nat.lt_of_lt_of_le hs3 hsr
      have k3 : n - 1 < n := by omega
      have k4 : 1 ≤ n := hn
      have HQ := hid HB.out
      clear hrr HCH HB hs3 hsr
      obtain ⟨wq, hwq⟩ : ∃ wq, wq = wr := ⟨_, rfl⟩
      subst hwq
      go_wp2_with fail
      clear rl
      go_loopg [10, 11] t (fun gn v i wr => ∃ (p g cap : Nat), p + gn = t ∧ i = .int .i64 p ∧ v = .slice (some ⟨g, 0, none⟩) p cap ∧ Below wq.heap.size wq wr ∧ wr.ownsRow wq.heap.size 33 4 (.slice (some ⟨g, 0, none⟩) p cap) p (flat (ins Z t (col x0 x1 x2 x3)) p))
      case atStart => exact ⟨0, wq.heap.size, n + 1, by omega, rfl, rfl, (Below.refl _ _).alloc (Nat.le_refl _) _, World.ownsRow_made wq _ (n + 1) (Nat.le_refl _) (by unfold maxLen; omega) (by rw [size_madeCells]; omega)⟩
      case round =>
        obtain ⟨p, g, cap, hp, rfl, rfl, hb, own⟩ := hrel
        have hrr := HRR.out.below HSR.out hb
        by_cases hlt : p < t
        · have r0 : wr.cell? ⟨w2.heap.size, p * 4, none⟩ = some (.int .i64 (Z p 0)) := by have := hrr p (by omega) 0 (by omega); simpa using this
          have r1 : wr.cell? ⟨w2.heap.size, p * 4 + 1, none⟩ = some (.int .i64 (Z p 1)) := by have := hrr p (by omega) 1 (by omega); simpa using this
          have r2 : wr.cell? ⟨w2.heap.size, p * 4 + 2, none⟩ = some (.int .i64 (Z p 2)) := by have := hrr p (by omega) 2 (by omega); simpa using this
          have r3 : wr.cell? ⟨w2.heap.size, p * 4 + 3, none⟩ = some (.int .i64 (Z p 3)) := by have := hrr p (by omega) 3 (by omega); simpa using this
          have OWL := hid (own.alloc (.cells #[.int .i64 (Z p 0), .int .i64 (Z p 1), .int .i64 (Z p 2), .int .i64 (Z p 3)] 33))
          have NWL := hid (nw1 wr (Z p 0) (Z p 1) (Z p 2) (Z p 3))
          have GE := hid (own.lt g rfl).1
          have SZ := hb.size
          have HB := hid hb
          have p1 : p < n := by omega
          clear hrr hb own
          go_wp2_with (at_builtin; refine wpList_append_lies _ rfl _ _ 29 rfl wq.heap.size 33 i0 (.agg #[.int .i64 0, .int .i64 0, .int .i64 0, .int .i64 0]) 4 32 Try.underlying29 hi0 hz0 hz1 hz2 rfl (by decide) _ _ _ rfl OWL.out ⟨wr.heap.size, 0, none⟩ 1 1 [.int .i64 (Z p 0), .int .i64 (Z p 1), .int .i64 (Z p 2), .int .i64 (Z p 3)] rfl rfl NWL.out (one4 _ _ _ _) (by decide) (by unfold maxLen; omega) (by omega) ?d5 _ rfl ?_)
          case d5 => simp; omega
          intro g1 cap1 w1 hown hgrow hat hlt1
          rw [flat_snoc _ p (ins_lo hlt 0) (ins_lo hlt 1) (ins_lo hlt 2) (ins_lo hlt 3)] at hown
          have OW := hid hown
          have BE := hid (be1 HB.out SZ hgrow GE.out)
          clear hown hgrow hat hlt1 r0 r1 r2 r3
          go_wp2_with fail
          go_roundg (gk - 1)
          case measure => omega
          case rel => exact ⟨p + 1, g1, cap1, by omega, by go_num, rfl, BE.out, OW.out⟩
        · have hpt : t = p := by omega
          subst hpt
          have hbx := below_chain HB3.out (below_chain HQ.out hb)
          have y0 : wr.cell? ⟨w.heap.size, 0, none⟩ = some (.int .i64 x0) := (hbx.cell (p := ⟨w.heap.size, 0, none⟩) HL2.out).trans Y0.out
          have y1 : wr.cell? ⟨w.heap.size, 1, none⟩ = some (.int .i64 x1) := (hbx.cell (p := ⟨w.heap.size, 1, none⟩) HL2.out).trans Y1.out
          have y2 : wr.cell? ⟨w.heap.size, 2, none⟩ = some (.int .i64 x2) := (hbx.cell (p := ⟨w.heap.size, 2, none⟩) HL2.out).trans Y2.out
          have y3 : wr.cell? ⟨w.heap.size, 3, none⟩ = some (.int .i64 x3) := (hbx.cell (p := ⟨w.heap.size, 3, none⟩) HL2.out).trans Y3.out
          have OWL := hid (own.alloc (.cells #[.int .i64 x0, .int .i64 x1, .int .i64 x2, .int .i64 x3] 33))
          have NWL := hid (nw1 wr x0 x1 x2 x3)
          have GE := hid (own.lt g rfl).1
          have SZ := hb.size
          have HB := hid hb
          clear hrr hb own hbx
          go_wp2_with (at_builtin; refine wpList_append_lies _ rfl _ _ 29 rfl wq.heap.size 33 i0 (.agg #[.int .i64 0, .int .i64 0, .int .i64 0, .int .i64 0]) 4 32 Try.underlying29 hi0 hz0 hz1 hz2 rfl (by decide) _ _ _ rfl OWL.out ⟨wr.heap.size, 0, none⟩ 1 1 [.int .i64 x0, .int .i64 x1, .int .i64 x2, .int .i64 x3] rfl rfl NWL.out (one4 _ _ _ _) (by decide) (by unfold maxLen; omega) (by omega) ?d5 _ rfl ?_)
          case d5 => simp; omega
          intro g1 cap1 w1 hown hgrow hat hlt1
          rw [flat_snoc (p0 := x0) (p1 := x1) (p2 := x2) (p3 := x3) (ins Z t (col x0 x1 x2 x3)) t (ins_at 0) (ins_at 1) (ins_at 2) (ins_at 3)] at hown
          have OW := hid hown
          have BE := hid (be1 HB.out SZ hgrow GE.out)
          clear hown hgrow hat hlt1 y0 y1 y2 y3 OWL NWL GE SZ HB
          go_wp2_with fail
          go_loopg [10, 12] (n - t) (fun gn v i wr => ∃ (p g cap : Nat), p + gn = n ∧ t ≤ p ∧ i = .int .i64 p ∧ v = .slice (some ⟨g, 0, none⟩) (p + 1) cap ∧ Below wq.heap.size wq wr ∧ wr.ownsRow wq.heap.size 33 4 (.slice (some ⟨g, 0, none⟩) (p + 1) cap) (p + 1) (flat (ins Z t (col x0 x1 x2 x3)) (p + 1)))
          case atStart => exact ⟨t, g1, cap1, by omega, by omega, rfl, rfl, BE.out, OW.out⟩
          case round =>
            clear OW BE
            obtain ⟨p, g, cap, hp, htp, rfl, rfl, hb, own⟩ := hrel
            have hrr := HRR.out.below HSR.out hb
            by_cases hlt2 : p < n
            · have r0 : wr.cell? ⟨w2.heap.size, p * 4, none⟩ = some (.int .i64 (Z p 0)) := by have := hrr p (by omega) 0 (by omega); simpa using this
              have r1 : wr.cell? ⟨w2.heap.size, p * 4 + 1, none⟩ = some (.int .i64 (Z p 1)) := by have := hrr p (by omega) 1 (by omega); simpa using this
              have r2 : wr.cell? ⟨w2.heap.size, p * 4 + 2, none⟩ = some (.int .i64 (Z p 2)) := by have := hrr p (by omega) 2 (by omega); simpa using this
              have r3 : wr.cell? ⟨w2.heap.size, p * 4 + 3, none⟩ = some (.int .i64 (Z p 3)) := by have := hrr p (by omega) 3 (by omega); simpa using this
              have OWL := hid (own.alloc (.cells #[.int .i64 (Z p 0), .int .i64 (Z p 1), .int .i64 (Z p 2), .int .i64 (Z p 3)] 33))
              have NWL := hid (nw1 wr (Z p 0) (Z p 1) (Z p 2) (Z p 3))
              have GE := hid (own.lt g rfl).1
              have SZ := hb.size
              have HB := hid hb
              clear hrr hb own
              go_wp2_with (at_builtin; refine wpList_append_lies _ rfl _ _ 29 rfl wq.heap.size 33 i0 (.agg #[.int .i64 0, .int .i64 0, .int .i64 0, .int .i64 0]) 4 32 Try.underlying29 hi0 hz0 hz1 hz2 rfl (by decide) _ _ _ rfl OWL.out ⟨wr.heap.size, 0, none⟩ 1 1 [.int .i64 (Z p 0), .int .i64 (Z p 1), .int .i64 (Z p 2), .int .i64 (Z p 3)] rfl rfl NWL.out (one4 _ _ _ _) (by decide) (by unfold maxLen; omega) (by omega) ?d5 _ rfl ?_)
              case d5 => simp; omega
              intro g1 cap1 w1 hown hgrow hat hlt1
              rw [flat_snoc _ (p + 1) (ins_hi htp 0) (ins_hi htp 1) (ins_hi htp 2) (ins_hi htp 3)] at hown
              have OW := hid hown
              have BE := hid (be1 HB.out SZ hgrow GE.out)
              clear hown hgrow hat hlt1 r0 r1 r2 r3
              go_wp2_with fail
              go_roundg (gk - 1)
              case measure => omega
              case rel => exact ⟨p + 1, g1, cap1, by omega, by omega, by go_num, rfl, BE.out, OW.out⟩
            · have hpn : n = p := by omega
              subst hpn
              obtain ⟨rg, hcg, hgb, hgl⟩ := owns_rd own
              have hbx := below_chain HB3.out (below_chain HQ.out hb)
              have FB := hid (below_chain HB2.out hbx)
              have RG := hid rg
              have RE := hid hrr
              have HGL := hid hgl
              have HEL : Hid (w2.heap.size < wr.heap.size) := Nat.lt_of_lt_of_le HSR.out hb.size
              have y1 : wr.cell? ⟨w.heap.size, 1, none⟩ = some (.int .i64 x1) := (hbx.cell (p := ⟨w.heap.size, 1, none⟩) HL2.out).trans Y1.out
              have HBX : Hid (w.heap.size < wr.heap.size) := Nat.lt_of_lt_of_le HL2.out hbx.size
              have YR := hid y1
              clear y1 hb own hrr rg hbx hgb hgl
              go_wp2_with fail
              refine (build_any w2.heap.size 0 n n Z wr (by omega) HEL.out RE.out).mono ?_
              rintro e w4 ⟨g4, cap4, rfl, hc4, hg4, hr4, hb4⟩
              have HB4 := hid hb4
              have CT4 := hid (zz_paid' g4 0 n cap4 Z w4 hn hc4 (by omega) hg4 hr4 true (by simpa using HY.out.1) (Z 0 1) (rfl))
              clear hb4 hr4 hg4
              go_wp2_with fail
              refine CT4.out.mono ?_
              rintro e w5 ⟨rfl, hb5⟩
              have HB5 := hid (below_chain HB4.out hb5)
              clear hb5 CT4 HB4
              go_wp2_with fail
              refine (build_any g 0 (n + 1) cap (ins Z t (col x0 x1 x2 x3)) w5 (by omega) (Nat.lt_of_lt_of_le HGL.out HB5.out.size) (RG.out.below HGL.out HB5.out)).mono ?_
              rintro e w6 ⟨g6, cap6, rfl, hc6, hg6, hr6, hb6⟩
              have HB6 := hid (below_chain HB5.out hb6)
              have CT6 := hid (zz_paid' g6 0 (n + 1) cap6 (ins Z t (col x0 x1 x2 x3)) w6 (by omega) hc6 (by omega) hg6 hr6 true (⟨fun _ => (ins_all hn ht).2 HY.out, fun _ => rfl⟩) (Z 0 1) ((ins_zero hn HY.out.2).symm))
              clear hb6 hr6 hg6 HB5
              go_wp2_with fail
              refine CT6.out.mono ?_
              rintro e w7 ⟨rfl, hb7⟩
              have HB7 := hid (below_chain HB6.out hb7)
              clear hb7 CT6 HB6
              have yz : w7.cell? ⟨w.heap.size, 1, none⟩ = some (.int .i64 x1) := (HB7.out.cell (p := ⟨w.heap.size, 1, none⟩) HBX.out).trans YR.out
              have hx : (x1 == Z 0 1) = true := by rw [beq_iff_eq]; exact HY.out.2
              go_wp2_with fail
              go_ret
              exact ⟨rfl, below_chain FB.out HB7.out⟩

set_option maxRecDepth 10000 in
set_option maxHeartbeats 8000000 in
theorem law5_yn (b o n c t : Nat) (x0 x1 x2 x3 : Int) (Z : Nat → Nat → Int) (w : World) (hn : 0 < n) (hm : n ≤ 32768) (hbw : b < w.heap.size) (hr : Rd w b o n Z) (ht : t ≤ n) (hy : AllEq n 1 Z ∧ x1 ≠ Z 0 1) :
    Calls Try.prog 5 #[.slice (some ⟨b, o, none⟩) n c, .int .i64 t, agg4 x0 x1 x2 x3] w fun e w' => e = .returned (.bool true) ∧ Below w.heap.size w w' := by
  obtain ⟨i0, hi0, hzz⟩ := Option.map_eq_some_iff.1 info33
  simp only [Prod.mk.injEq] at hzz
  obtain ⟨hz0, hz1, hz2⟩ := hzz
  have hmk : ∀ w : World, (Instr.makeSlice 29 (.int .i64 0) (.int .i64 ((n : Int) + 1))).run Try.prog w = .ok (.slice (some ⟨w.heap.size, 0, none⟩) 0 (n + 1)) (w.alloc (.cells (madeCells #[.int .i64 0] (4 * (n + 1))) 33)) := run_make_four 29 33 Try.underlying29 info33 0 (n + 1) (Nat.zero_le _) (by omega)
  have HR := hid hr
  have HY := hid hy
  clear hr hy
  go_enter Try.func5, Try.ntmps5
  go_wp2_with fail
  refine (bytes5_any _ _ _ _ _ _ _ _ _ (by omega)).mono ?_
  rintro e w2 ⟨rfl, hw2⟩
  have hs2 : w2.heap.size = w.heap.size + 2 := by rw [hw2]; simp
  have hb2 : Below w.heap.size w w2 := by rw [hw2]; exact ((Below.refl _ _).alloc (Nat.le_refl _) _).alloc (by simp) _
  have y0 : w2.cell? ⟨w.heap.size, 0, none⟩ = some (.int .i64 x0) := by rw [hw2]; simp [go_sem]
  have y1 : w2.cell? ⟨w.heap.size, 1, none⟩ = some (.int .i64 x1) := by rw [hw2]; simp [go_sem]
  have y2 : w2.cell? ⟨w.heap.size, 2, none⟩ = some (.int .i64 x2) := by rw [hw2]; simp [go_sem]
  have y3 : w2.cell? ⟨w.heap.size, 3, none⟩ = some (.int .i64 x3) := by rw [hw2]; simp [go_sem]
  have HS2 := hid hs2
  have hl2 : b < w2.heap.size := by omega
  have HL2 : Hid (w.heap.size < w2.heap.size) := by rw [hs2]; show w.heap.size < w.heap.size + 2; omega
  clear hs2
  have HB2 := hid hb2
  have HR2 := hid (HR.out.below hbw hb2)
  have Y0 := hid y0
  have Y1 := hid y1
  have Y2 := hid y2
  have Y3 := hid y3
  clear hb2 hw2 HR y0 y1 y2 y3
  have d1 : ((n : Int) == 0) = false := by rw [beq_eq_false_iff_ne]; omega
  have d2 : decide ((t : Int) < 0) = false := by simp
  have d3 : decide (n < t) = false := by simp; omega
  have d4 : decide ((n : Int) < t) = false := by simp; omega
  go_wp2_with fail
  refine (clone_any b o n c Z _ hn hm hl2 HR2.out).mono ?_
  rintro e w3 ⟨rfl, hr3, hb3⟩
  have hs3 : w2.heap.size < w3.heap.size := block_lt_of_cell (hr3 0 hn 0 (by omega))
  have HR3 := hid hr3
  have HB3 := hid hb3
  clear hr3 hb3 HR2
  go_wp2_with fail
  go_loopg [7, 8] (n - 1) (fun gn vc i wr => ∃ (k : Nat) (ch : Bool), k + gn = n - 1 ∧ i = .int .i64 k ∧ vc = .bool ch ∧ (ch = true ↔ Chain Z k) ∧ Below w3.heap.size w3 wr)
  case atStart => exact ⟨0, true, by omega, rfl, rfl, by simp [Chain], Below.refl _ _⟩
  case round =>
    obtain ⟨k, ch, hk, rfl, rfl, hch, hb⟩ := hrel
    have HCH := hid hch
    have HB := hid hb
    have hsr : w3.heap.size ≤ wr.heap.size := hb.size
    have hrr := HR3.out.below hs3 hb
    clear hch hb
    by_cases hlt : k + 1 < n
    · have r0 : wr.cell? ⟨w2.heap.size, k * 4 + 1, none⟩ = some (.int .i64 (Z k 1)) := by have := hrr k (by omega) 1 (by omega); simpa using this
      have r1 : wr.cell? ⟨w2.heap.size, (k + 1) * 4 + 1, none⟩ = some (.int .i64 (Z (k + 1) 1)) := by have := hrr (k + 1) (by omega) 1 (by omega); simpa using this
      clear hrr
      have k1 : k < n := by omega
      have k2 : (k : Int) + 1 < n := by omega
      by_cases he : Z k 1 = Z (k + 1) 1
      · have he' : (Z k 1 == Z (k + 1) 1) = true := by simp [he]
        have HE := hid he
        clear he
        go_wp2_with fail
        go_quiet (fail)
        go_wp2_with fail
        go_roundg (gk - 1)
        case measure => omega
        case rel => exact ⟨k + 1, ch, by omega, by go_num, rfl, HCH.out.trans ⟨fun h j hj => by rcases Nat.lt_or_ge j k with h' | h'; exact h j h'; rw [show j = k by omega]; exact HE.out, fun h j hj => h j (by omega)⟩, HB.out.trans ⟨rfl, rfl, rfl, Nat.le_refl _, fun _ _ => rfl⟩⟩
      · have he' : (Z k 1 == Z (k + 1) 1) = false := by simp [he]
        have HE := hid he
        clear he
        go_wp2_with fail
        go_quiet (fail)
        go_wp2_with fail
        go_roundg (gk - 1)
        case measure => omega
        case rel => exact ⟨k + 1, false, by omega, by go_num, rfl, ⟨fun h => (by cases h), fun h => absurd (h k (by omega)) HE.out⟩, HB.out.trans ⟨rfl, rfl, rfl, Nat.le_refl _, fun _ _ => rfl⟩⟩
    · have hkn : k = n - 1 := by omega
      subst hkn
      obtain rfl : ch = true := HCH.out.2 (by exact Chain.of_all HY.out.1)
      have hdec : decide ((((n - 1 : Nat) : Int)) + 1 < (n : Int)) = false := by simp; omega
      have rl : wr.cell? ⟨w2.heap.size, (n - 1) * 4 + 1, none⟩ = some (.int .i64 (Z 0 1)) := by
        have := hrr (n - 1) (by omega) 1 (by omega)
        rw [HY.out.1 (n - 1) (by omega)] at this
        simpa using this
      have HRR := hid hrr
      have HSR : Hid (w2.heap.size < wr.heap.size) := Nat.lt_of_lt_of_le hs3 hsr
      have k3 : n - 1 < n := by omega
      have k4 : 1 ≤ n := hn
      have HQ := hid HB.out
      clear hrr HCH HB hs3 hsr
      obtain ⟨wq, hwq⟩ : ∃ wq, wq = wr := ⟨_, rfl⟩
      subst hwq
      go_wp2_with fail
      clear rl
      go_loopg [10, 11] t (fun gn v i wr => ∃ (p g cap : Nat), p + gn = t ∧ i = .int .i64 p ∧ v = .slice (some ⟨g, 0, none⟩) p cap ∧ Below wq.heap.size wq wr ∧ wr.ownsRow wq.heap.size 33 4 (.slice (some ⟨g, 0, none⟩) p cap) p (flat (ins Z t (col x0 x1 x2 x3)) p))
      case atStart => exact ⟨0, wq.heap.size, n + 1, by omega, rfl, rfl, (Below.refl _ _).alloc (Nat.le_refl _) _, World.ownsRow_made wq _ (n + 1) (Nat.le_refl _) (by unfold maxLen; omega) (by rw [size_madeCells]; omega)⟩
      case round =>
        obtain ⟨p, g, cap, hp, rfl, rfl, hb, own⟩ := hrel
        have hrr := HRR.out.below HSR.out hb
        by_cases hlt : p < t
        · have r0 : wr.cell? ⟨w2.heap.size, p * 4, none⟩ = some (.int .i64 (Z p 0)) := by have := hrr p (by omega) 0 (by omega); simpa using this
          have r1 : wr.cell? ⟨w2.heap.size, p * 4 + 1, none⟩ = some (.int .i64 (Z p 1)) := by have := hrr p (by omega) 1 (by omega); simpa using this
          have r2 : wr.cell? ⟨w2.heap.size, p * 4 + 2, none⟩ = some (.int .i64 (Z p 2)) := by have := hrr p (by omega) 2 (by omega); simpa using this
          have r3 : wr.cell? ⟨w2.heap.size, p * 4 + 3, none⟩ = some (.int .i64 (Z p 3)) := by have := hrr p (by omega) 3 (by omega); simpa using this
          have OWL := hid (own.alloc (.cells #[.int .i64 (Z p 0), .int .i64 (Z p 1), .int .i64 (Z p 2), .int .i64 (Z p 3)] 33))
          have NWL := hid (nw1 wr (Z p 0) (Z p 1) (Z p 2) (Z p 3))
          have GE := hid (own.lt g rfl).1
          have SZ := hb.size
          have HB := hid hb
          have p1 : p < n := by omega
          clear hrr hb own
          go_wp2_with (at_builtin; refine wpList_append_lies _ rfl _ _ 29 rfl wq.heap.size 33 i0 (.agg #[.int .i64 0, .int .i64 0, .int .i64 0, .int .i64 0]) 4 32 Try.underlying29 hi0 hz0 hz1 hz2 rfl (by decide) _ _ _ rfl OWL.out ⟨wr.heap.size, 0, none⟩ 1 1 [.int .i64 (Z p 0), .int .i64 (Z p 1), .int .i64 (Z p 2), .int .i64 (Z p 3)] rfl rfl NWL.out (one4 _ _ _ _) (by decide) (by unfold maxLen; omega) (by omega) ?d5 _ rfl ?_)
          case d5 => simp; omega
          intro g1 cap1 w1 hown hgrow hat hlt1
          rw [flat_snoc _ p (ins_lo hlt 0) (ins_lo hlt 1) (ins_lo hlt 2) (ins_lo hlt 3)] at hown
          have OW := hid hown
          have BE := hid (be1 HB.out SZ hgrow GE.out)
          clear hown hgrow hat hlt1 r0 r1 r2 r3
          go_wp2_with fail
          go_roundg (gk - 1)
          case measure => omega
          case rel => exact ⟨p + 1, g1, cap1, by omega, by go_num, rfl, BE.out, OW.out⟩
        · have hpt : t = p := by omega
          subst hpt
          have hbx := below_chain HB3.out (below_chain HQ.out hb)
          have y0 : wr.cell? ⟨w.heap.size, 0, none⟩ = some (.int .i64 x0) := (hbx.cell (p := ⟨w.heap.size, 0, none⟩) HL2.out).trans Y0.out
          have y1 : wr.cell? ⟨w.heap.size, 1, none⟩ = some (.int .i64 x1) := (hbx.cell (p := ⟨w.heap.size, 1, none⟩) HL2.out).trans Y1.out
          have y2 : wr.cell? ⟨w.heap.size, 2, none⟩ = some (.int .i64 x2) := (hbx.cell (p := ⟨w.heap.size, 2, none⟩) HL2.out).trans Y2.out
          have y3 : wr.cell? ⟨w.heap.size, 3, none⟩ = some (.int .i64 x3) := (hbx.cell (p := ⟨w.heap.size, 3, none⟩) HL2.out).trans Y3.out
          have OWL := hid (own.alloc (.cells #[.int .i64 x0, .int .i64 x1, .int .i64 x2, .int .i64 x3] 33))
          have NWL := hid (nw1 wr x0 x1 x2 x3)
          have GE := hid (own.lt g rfl).1
          have SZ := hb.size
          have HB := hid hb
          clear hrr hb own hbx
          go_wp2_with (at_builtin; refine wpList_append_lies _ rfl _ _ 29 rfl wq.heap.size 33 i0 (.agg #[.int .i64 0, .int .i64 0, .int .i64 0, .int .i64 0]) 4 32 Try.underlying29 hi0 hz0 hz1 hz2 rfl (by decide) _ _ _ rfl OWL.out ⟨wr.heap.size, 0, none⟩ 1 1 [.int .i64 x0, .int .i64 x1, .int .i64 x2, .int .i64 x3] rfl rfl NWL.out (one4 _ _ _ _) (by decide) (by unfold maxLen; omega) (by omega) ?d5 _ rfl ?_)
          case d5 => simp; omega
          intro g1 cap1 w1 hown hgrow hat hlt1
          rw [flat_snoc (p0 := x0) (p1 := x1) (p2 := x2) (p3 := x3) (ins Z t (col x0 x1 x2 x3)) t (ins_at 0) (ins_at 1) (ins_at 2) (ins_at 3)] at hown
          have OW := hid hown
          have BE := hid (be1 HB.out SZ hgrow GE.out)
          clear hown hgrow hat hlt1 y0 y1 y2 y3 OWL NWL GE SZ HB
          go_wp2_with fail
          go_loopg [10, 12] (n - t) (fun gn v i wr => ∃ (p g cap : Nat), p + gn = n ∧ t ≤ p ∧ i = .int .i64 p ∧ v = .slice (some ⟨g, 0, none⟩) (p + 1) cap ∧ Below wq.heap.size wq wr ∧ wr.ownsRow wq.heap.size 33 4 (.slice (some ⟨g, 0, none⟩) (p + 1) cap) (p + 1) (flat (ins Z t (col x0 x1 x2 x3)) (p + 1)))
          case atStart => exact ⟨t, g1, cap1, by omega, by omega, rfl, rfl, BE.out, OW.out⟩
          case round =>
            clear OW BE
            obtain ⟨p, g, cap, hp, htp, rfl, rfl, hb, own⟩ := hrel
            have hrr := HRR.out.below HSR.out hb
            by_cases hlt2 : p < n
            · have r0 : wr.cell? ⟨w2.heap.size, p * 4, none⟩ = some (.int .i64 (Z p 0)) := by have := hrr p (by omega) 0 (by omega); simpa using this
              have r1 : wr.cell? ⟨w2.heap.size, p * 4 + 1, none⟩ = some (.int .i64 (Z p 1)) := by have := hrr p (by omega) 1 (by omega); simpa using this
              have r2 : wr.cell? ⟨w2.heap.size, p * 4 + 2, none⟩ = some (.int .i64 (Z p 2)) := by have := hrr p (by omega) 2 (by omega); simpa using this
              have r3 : wr.cell? ⟨w2.heap.size, p * 4 + 3, none⟩ = some (.int .i64 (Z p 3)) := by have := hrr p (by omega) 3 (by omega); simpa using this
              have OWL := hid (own.alloc (.cells #[.int .i64 (Z p 0), .int .i64 (Z p 1), .int .i64 (Z p 2), .int .i64 (Z p 3)] 33))
              have NWL := hid (nw1 wr (Z p 0) (Z p 1) (Z p 2) (Z p 3))
              have GE := hid (own.lt g rfl).1
              have SZ := hb.size
              have HB := hid hb
              clear hrr hb own
              go_wp2_with (at_builtin; refine wpList_append_lies _ rfl _ _ 29 rfl wq.heap.size 33 i0 (.agg #[.int .i64 0, .int .i64 0, .int .i64 0, .int .i64 0]) 4 32 Try.underlying29 hi0 hz0 hz1 hz2 rfl (by decide) _ _ _ rfl OWL.out ⟨wr.heap.size, 0, none⟩ 1 1 [.int .i64 (Z p 0), .int .i64 (Z p 1), .int .i64 (Z p 2), .int .i64 (Z p 3)] rfl rfl NWL.out (one4 _ _ _ _) (by decide) (by unfold maxLen; omega) (by omega) ?d5 _ rfl ?_)
              case d5 => simp; omega
              intro g1 cap1 w1 hown hgrow hat hlt1
              rw [flat_snoc _ (p + 1) (ins_hi htp 0) (ins_hi htp 1) (ins_hi htp 2) (ins_hi htp 3)] at hown
              have OW := hid hown
              have BE := hid (be1 HB.out SZ hgrow GE.out)
              clear hown hgrow hat hlt1 r0 r1 r2 r3
              go_wp2_with fail
              go_roundg (gk - 1)
              case measure => omega
              case rel => exact ⟨p + 1, g1, cap1, by omega, by omega, by go_num, rfl, BE.out, OW.out⟩
            · have hpn : n = p := by omega
              subst hpn
              obtain ⟨rg, hcg, hgb, hgl⟩ := owns_rd own
              have hbx := below_chain HB3.out (below_chain HQ.out hb)
              have FB := hid (below_chain HB2.out hbx)
              have RG := hid rg
              have RE := hid hrr
              have HGL := hid hgl
              have HEL : Hid (w2.heap.size < wr.heap.size) := Nat.lt_of_lt_of_le HSR.out hb.size
              have y1 : wr.cell? ⟨w.heap.size, 1, none⟩ = some (.int .i64 x1) := (hbx.cell (p := ⟨w.heap.size, 1, none⟩) HL2.out).trans Y1.out
              have HBX : Hid (w.heap.size < wr.heap.size) := Nat.lt_of_lt_of_le HL2.out hbx.size
              have YR := hid y1
              clear y1 hb own hrr rg hbx hgb hgl
              go_wp2_with fail
              refine (build_any w2.heap.size 0 n n Z wr (by omega) HEL.out RE.out).mono ?_
              rintro e w4 ⟨g4, cap4, rfl, hc4, hg4, hr4, hb4⟩
              have HB4 := hid hb4
              have CT4 := hid (zz_paid' g4 0 n cap4 Z w4 hn hc4 (by omega) hg4 hr4 true (by simpa using HY.out.1) (Z 0 1) (rfl))
              clear hb4 hr4 hg4
              go_wp2_with fail
              refine CT4.out.mono ?_
              rintro e w5 ⟨rfl, hb5⟩
              have HB5 := hid (below_chain HB4.out hb5)
              clear hb5 CT4 HB4
              go_wp2_with fail
              refine (build_any g 0 (n + 1) cap (ins Z t (col x0 x1 x2 x3)) w5 (by omega) (Nat.lt_of_lt_of_le HGL.out HB5.out.size) (RG.out.below HGL.out HB5.out)).mono ?_
              rintro e w6 ⟨g6, cap6, rfl, hc6, hg6, hr6, hb6⟩
              have HB6 := hid (below_chain HB5.out hb6)
              have CT6 := hid (zz_paid' g6 0 (n + 1) cap6 (ins Z t (col x0 x1 x2 x3)) w6 (by omega) hc6 (by omega) hg6 hr6 false (⟨fun h => (by cases h), fun h => absurd ((ins_all hn ht).1 h).2 HY.out.2⟩) 0 (rfl))
              clear hb6 hr6 hg6 HB5
              go_wp2_with fail
              refine CT6.out.mono ?_
              rintro e w7 ⟨rfl, hb7⟩
              have HB7 := hid (below_chain HB6.out hb7)
              clear hb7 CT6 HB6
              have yz : w7.cell? ⟨w.heap.size, 1, none⟩ = some (.int .i64 x1) := (HB7.out.cell (p := ⟨w.heap.size, 1, none⟩) HBX.out).trans YR.out
              have hx : (x1 == Z 0 1) = false := by rw [beq_eq_false_iff_ne]; exact HY.out.2
              go_wp2_with fail
              go_ret
              exact ⟨rfl, below_chain FB.out HB7.out⟩

set_option maxRecDepth 10000 in
set_option maxHeartbeats 8000000 in
theorem law5_nn (b o n c t : Nat) (x0 x1 x2 x3 : Int) (Z : Nat → Nat → Int) (w : World) (hn : 0 < n) (hm : n ≤ 32768) (hbw : b < w.heap.size) (hr : Rd w b o n Z) (ht : t ≤ n) (hy : ¬ AllEq n 1 Z) :
    Calls Try.prog 5 #[.slice (some ⟨b, o, none⟩) n c, .int .i64 t, agg4 x0 x1 x2 x3] w fun e w' => e = .returned (.bool true) ∧ Below w.heap.size w w' := by
  obtain ⟨i0, hi0, hzz⟩ := Option.map_eq_some_iff.1 info33
  simp only [Prod.mk.injEq] at hzz
  obtain ⟨hz0, hz1, hz2⟩ := hzz
  have hmk : ∀ w : World, (Instr.makeSlice 29 (.int .i64 0) (.int .i64 ((n : Int) + 1))).run Try.prog w = .ok (.slice (some ⟨w.heap.size, 0, none⟩) 0 (n + 1)) (w.alloc (.cells (madeCells #[.int .i64 0] (4 * (n + 1))) 33)) := run_make_four 29 33 Try.underlying29 info33 0 (n + 1) (Nat.zero_le _) (by omega)
  have HR := hid hr
  have HY := hid hy
  clear hr hy
  go_enter Try.func5, Try.ntmps5
  go_wp2_with fail
  refine (bytes5_any _ _ _ _ _ _ _ _ _ (by omega)).mono ?_
  rintro e w2 ⟨rfl, hw2⟩
  have hs2 : w2.heap.size = w.heap.size + 2 := by rw [hw2]; simp
  have hb2 : Below w.heap.size w w2 := by rw [hw2]; exact ((Below.refl _ _).alloc (Nat.le_refl _) _).alloc (by simp) _
  have y0 : w2.cell? ⟨w.heap.size, 0, none⟩ = some (.int .i64 x0) := by rw [hw2]; simp [go_sem]
  have y1 : w2.cell? ⟨w.heap.size, 1, none⟩ = some (.int .i64 x1) := by rw [hw2]; simp [go_sem]
  have y2 : w2.cell? ⟨w.heap.size, 2, none⟩ = some (.int .i64 x2) := by rw [hw2]; simp [go_sem]
  have y3 : w2.cell? ⟨w.heap.size, 3, none⟩ = some (.int .i64 x3) := by rw [hw2]; simp [go_sem]
  have HS2 := hid hs2
  have hl2 : b < w2.heap.size := by omega
  have HL2 : Hid (w.heap.size < w2.heap.size) := by rw [hs2]; show w.heap.size < w.heap.size + 2; omega
  clear hs2
  have HB2 := hid hb2
  have HR2 := hid (HR.out.below hbw hb2)
  have Y0 := hid y0
  have Y1 := hid y1
  have Y2 := hid y2
  have Y3 := hid y3
  clear hb2 hw2 HR y0 y1 y2 y3
  have d1 : ((n : Int) == 0) = false := by rw [beq_eq_false_iff_ne]; omega
  have d2 : decide ((t : Int) < 0) = false := by simp
  have d3 : decide (n < t) = false := by simp; omega
  have d4 : decide ((n : Int) < t) = false := by simp; omega
  go_wp2_with fail
  refine (clone_any b o n c Z _ hn hm hl2 HR2.out).mono ?_
  rintro e w3 ⟨rfl, hr3, hb3⟩
  have hs3 : w2.heap.size < w3.heap.size := block_lt_of_cell (hr3 0 hn 0 (by omega))
  have HR3 := hid hr3
  have HB3 := hid hb3
  clear hr3 hb3 HR2
  go_wp2_with fail
  go_loopg [7, 8] (n - 1) (fun gn vc i wr => ∃ (k : Nat) (ch : Bool), k + gn = n - 1 ∧ i = .int .i64 k ∧ vc = .bool ch ∧ (ch = true ↔ Chain Z k) ∧ Below w3.heap.size w3 wr)
  case atStart => exact ⟨0, true, by omega, rfl, rfl, by simp [Chain], Below.refl _ _⟩
  case round =>
    obtain ⟨k, ch, hk, rfl, rfl, hch, hb⟩ := hrel
    have HCH := hid hch
    have HB := hid hb
    have hsr : w3.heap.size ≤ wr.heap.size := hb.size
    have hrr := HR3.out.below hs3 hb
    clear hch hb
    by_cases hlt : k + 1 < n
    · have r0 : wr.cell? ⟨w2.heap.size, k * 4 + 1, none⟩ = some (.int .i64 (Z k 1)) := by have := hrr k (by omega) 1 (by omega); simpa using this
      have r1 : wr.cell? ⟨w2.heap.size, (k + 1) * 4 + 1, none⟩ = some (.int .i64 (Z (k + 1) 1)) := by have := hrr (k + 1) (by omega) 1 (by omega); simpa using this
      clear hrr
      have k1 : k < n := by omega
      have k2 : (k : Int) + 1 < n := by omega
      by_cases he : Z k 1 = Z (k + 1) 1
      · have he' : (Z k 1 == Z (k + 1) 1) = true := by simp [he]
        have HE := hid he
        clear he
        go_wp2_with fail
        go_quiet (fail)
        go_wp2_with fail
        go_roundg (gk - 1)
        case measure => omega
        case rel => exact ⟨k + 1, ch, by omega, by go_num, rfl, HCH.out.trans ⟨fun h j hj => by rcases Nat.lt_or_ge j k with h' | h'; exact h j h'; rw [show j = k by omega]; exact HE.out, fun h j hj => h j (by omega)⟩, HB.out.trans ⟨rfl, rfl, rfl, Nat.le_refl _, fun _ _ => rfl⟩⟩
      · have he' : (Z k 1 == Z (k + 1) 1) = false := by simp [he]
        have HE := hid he
        clear he
        go_wp2_with fail
        go_quiet (fail)
        go_wp2_with fail
        go_roundg (gk - 1)
        case measure => omega
        case rel => exact ⟨k + 1, false, by omega, by go_num, rfl, ⟨fun h => (by cases h), fun h => absurd (h k (by omega)) HE.out⟩, HB.out.trans ⟨rfl, rfl, rfl, Nat.le_refl _, fun _ _ => rfl⟩⟩
    · have hkn : k = n - 1 := by omega
      subst hkn
      obtain rfl : ch = false := by cases h : ch; rfl; exact absurd (Chain.all (HCH.out.1 h)) HY.out
      have hdec : decide ((((n - 1 : Nat) : Int)) + 1 < (n : Int)) = false := by simp; omega
      have rl : wr.cell? ⟨w2.heap.size, (n - 1) * 4 + 1, none⟩ = some (.int .i64 (Z (n - 1) 1)) := by
        have := hrr (n - 1) (by omega) 1 (by omega)
        skip
        simpa using this
      have HRR := hid hrr
      have HSR : Hid (w2.heap.size < wr.heap.size) := Nat.lt_of_lt_of_le hs3 hsr
      have k3 : n - 1 < n := by omega
      have k4 : 1 ≤ n := hn
      have HQ := hid HB.out
      clear hrr HCH HB hs3 hsr
      obtain ⟨wq, hwq⟩ : ∃ wq, wq = wr := ⟨_, rfl⟩
      subst hwq
      go_wp2_with fail
      clear rl
      go_loopg [10, 11] t (fun gn v i wr => ∃ (p g cap : Nat), p + gn = t ∧ i = .int .i64 p ∧ v = .slice (some ⟨g, 0, none⟩) p cap ∧ Below wq.heap.size wq wr ∧ wr.ownsRow wq.heap.size 33 4 (.slice (some ⟨g, 0, none⟩) p cap) p (flat (ins Z t (col x0 x1 x2 x3)) p))
      case atStart => exact ⟨0, wq.heap.size, n + 1, by omega, rfl, rfl, (Below.refl _ _).alloc (Nat.le_refl _) _, World.ownsRow_made wq _ (n + 1) (Nat.le_refl _) (by unfold maxLen; omega) (by rw [size_madeCells]; omega)⟩
      case round =>
        obtain ⟨p, g, cap, hp, rfl, rfl, hb, own⟩ := hrel
        have hrr := HRR.out.below HSR.out hb
        by_cases hlt : p < t
        · have r0 : wr.cell? ⟨w2.heap.size, p * 4, none⟩ = some (.int .i64 (Z p 0)) := by have := hrr p (by omega) 0 (by omega); simpa using this
          have r1 : wr.cell? ⟨w2.heap.size, p * 4 + 1, none⟩ = some (.int .i64 (Z p 1)) := by have := hrr p (by omega) 1 (by omega); simpa using this
          have r2 : wr.cell? ⟨w2.heap.size, p * 4 + 2, none⟩ = some (.int .i64 (Z p 2)) := by have := hrr p (by omega) 2 (by omega); simpa using this
          have r3 : wr.cell? ⟨w2.heap.size, p * 4 + 3, none⟩ = some (.int .i64 (Z p 3)) := by have := hrr p (by omega) 3 (by omega); simpa using this
          have OWL := hid (own.alloc (.cells #[.int .i64 (Z p 0), .int .i64 (Z p 1), .int .i64 (Z p 2), .int .i64 (Z p 3)] 33))
          have NWL := hid (nw1 wr (Z p 0) (Z p 1) (Z p 2) (Z p 3))
          have GE := hid (own.lt g rfl).1
          have SZ := hb.size
          have HB := hid hb
          have p1 : p < n := by omega
          clear hrr hb own
          go_wp2_with (at_builtin; refine wpList_append_lies _ rfl _ _ 29 rfl wq.heap.size 33 i0 (.agg #[.int .i64 0, .int .i64 0, .int .i64 0, .int .i64 0]) 4 32 Try.underlying29 hi0 hz0 hz1 hz2 rfl (by decide) _ _ _ rfl OWL.out ⟨wr.heap.size, 0, none⟩ 1 1 [.int .i64 (Z p 0), .int .i64 (Z p 1), .int .i64 (Z p 2), .int .i64 (Z p 3)] rfl rfl NWL.out (one4 _ _ _ _) (by decide) (by unfold maxLen; omega) (by omega) ?d5 _ rfl ?_)
          case d5 => simp; omega
          intro g1 cap1 w1 hown hgrow hat hlt1
          rw [flat_snoc _ p (ins_lo hlt 0) (ins_lo hlt 1) (ins_lo hlt 2) (ins_lo hlt 3)] at hown
          have OW := hid hown
          have BE := hid (be1 HB.out SZ hgrow GE.out)
          clear hown hgrow hat hlt1 r0 r1 r2 r3
          go_wp2_with fail
          go_roundg (gk - 1)
          case measure => omega
          case rel => exact ⟨p + 1, g1, cap1, by omega, by go_num, rfl, BE.out, OW.out⟩
        · have hpt : t = p := by omega
          subst hpt
          have hbx := below_chain HB3.out (below_chain HQ.out hb)
          have y0 : wr.cell? ⟨w.heap.size, 0, none⟩ = some (.int .i64 x0) := (hbx.cell (p := ⟨w.heap.size, 0, none⟩) HL2.out).trans Y0.out
          have y1 : wr.cell? ⟨w.heap.size, 1, none⟩ = some (.int .i64 x1) := (hbx.cell (p := ⟨w.heap.size, 1, none⟩) HL2.out).trans Y1.out
          have y2 : wr.cell? ⟨w.heap.size, 2, none⟩ = some (.int .i64 x2) := (hbx.cell (p := ⟨w.heap.size, 2, none⟩) HL2.out).trans Y2.out
          have y3 : wr.cell? ⟨w.heap.size, 3, none⟩ = some (.int .i64 x3) := (hbx.cell (p := ⟨w.heap.size, 3, none⟩) HL2.out).trans Y3.out
          have OWL := hid (own.alloc (.cells #[.int .i64 x0, .int .i64 x1, .int .i64 x2, .int .i64 x3] 33))
          have NWL := hid (nw1 wr x0 x1 x2 x3)
          have GE := hid (own.lt g rfl).1
          have SZ := hb.size
          have HB := hid hb
          clear hrr hb own hbx
          go_wp2_with (at_builtin; refine wpList_append_lies _ rfl _ _ 29 rfl wq.heap.size 33 i0 (.agg #[.int .i64 0, .int .i64 0, .int .i64 0, .int .i64 0]) 4 32 Try.underlying29 hi0 hz0 hz1 hz2 rfl (by decide) _ _ _ rfl OWL.out ⟨wr.heap.size, 0, none⟩ 1 1 [.int .i64 x0, .int .i64 x1, .int .i64 x2, .int .i64 x3] rfl rfl NWL.out (one4 _ _ _ _) (by decide) (by unfold maxLen; omega) (by omega) ?d5 _ rfl ?_)
          case d5 => simp; omega
          intro g1 cap1 w1 hown hgrow hat hlt1
          rw [flat_snoc (p0 := x0) (p1 := x1) (p2 := x2) (p3 := x3) (ins Z t (col x0 x1 x2 x3)) t (ins_at 0) (ins_at 1) (ins_at 2) (ins_at 3)] at hown
          have OW := hid hown
          have BE := hid (be1 HB.out SZ hgrow GE.out)
          clear hown hgrow hat hlt1 y0 y1 y2 y3 OWL NWL GE SZ HB
          go_wp2_with fail
          go_loopg [10, 12] (n - t) (fun gn v i wr => ∃ (p g cap : Nat), p + gn = n ∧ t ≤ p ∧ i = .int .i64 p ∧ v = .slice (some ⟨g, 0, none⟩) (p + 1) cap ∧ Below wq.heap.size wq wr ∧ wr.ownsRow wq.heap.size 33 4 (.slice (some ⟨g, 0, none⟩) (p + 1) cap) (p + 1) (flat (ins Z t (col x0 x1 x2 x3)) (p + 1)))
          case atStart => exact ⟨t, g1, cap1, by omega, by omega, rfl, rfl, BE.out, OW.out⟩
          case round =>
            clear OW BE
            obtain ⟨p, g, cap, hp, htp, rfl, rfl, hb, own⟩ := hrel
            have hrr := HRR.out.below HSR.out hb
            by_cases hlt2 : p < n
            · have r0 : wr.cell? ⟨w2.heap.size, p * 4, none⟩ = some (.int .i64 (Z p 0)) := by have := hrr p (by omega) 0 (by omega); simpa using this
              have r1 : wr.cell? ⟨w2.heap.size, p * 4 + 1, none⟩ = some (.int .i64 (Z p 1)) := by have := hrr p (by omega) 1 (by omega); simpa using this
              have r2 : wr.cell? ⟨w2.heap.size, p * 4 + 2, none⟩ = some (.int .i64 (Z p 2)) := by have := hrr p (by omega) 2 (by omega); simpa using this
              have r3 : wr.cell? ⟨w2.heap.size, p * 4 + 3, none⟩ = some (.int .i64 (Z p 3)) := by have := hrr p (by omega) 3 (by omega); simpa using this
              have OWL := hid (own.alloc (.cells #[.int .i64 (Z p 0), .int .i64 (Z p 1), .int .i64 (Z p 2), .int .i64 (Z p 3)] 33))
              have NWL := hid (nw1 wr (Z p 0) (Z p 1) (Z p 2) (Z p 3))
              have GE := hid (own.lt g rfl).1
              have SZ := hb.size
              have HB := hid hb
              clear hrr hb own
              go_wp2_with (at_builtin; refine wpList_append_lies _ rfl _ _ 29 rfl wq.heap.size 33 i0 (.agg #[.int .i64 0, .int .i64 0, .int .i64 0, .int .i64 0]) 4 32 Try.underlying29 hi0 hz0 hz1 hz2 rfl (by decide) _ _ _ rfl OWL.out ⟨wr.heap.size, 0, none⟩ 1 1 [.int .i64 (Z p 0), .int .i64 (Z p 1), .int .i64 (Z p 2), .int .i64 (Z p 3)] rfl rfl NWL.out (one4 _ _ _ _) (by decide) (by unfold maxLen; omega) (by omega) ?d5 _ rfl ?_)
              case d5 => simp; omega
              intro g1 cap1 w1 hown hgrow hat hlt1
              rw [flat_snoc _ (p + 1) (ins_hi htp 0) (ins_hi htp 1) (ins_hi htp 2) (ins_hi htp 3)] at hown
              have OW := hid hown
              have BE := hid (be1 HB.out SZ hgrow GE.out)
              clear hown hgrow hat hlt1 r0 r1 r2 r3
              go_wp2_with fail
              go_roundg (gk - 1)
              case measure => omega
              case rel => exact ⟨p + 1, g1, cap1, by omega, by omega, by go_num, rfl, BE.out, OW.out⟩
            · have hpn : n = p := by omega
              subst hpn
              obtain ⟨rg, hcg, hgb, hgl⟩ := owns_rd own
              have hbx := below_chain HB3.out (below_chain HQ.out hb)
              have FB := hid (below_chain HB2.out hbx)
              have RG := hid rg
              have RE := hid hrr
              have HGL := hid hgl
              have HEL : Hid (w2.heap.size < wr.heap.size) := Nat.lt_of_lt_of_le HSR.out hb.size
              have y1 : wr.cell? ⟨w.heap.size, 1, none⟩ = some (.int .i64 x1) := (hbx.cell (p := ⟨w.heap.size, 1, none⟩) HL2.out).trans Y1.out
              have HBX : Hid (w.heap.size < wr.heap.size) := Nat.lt_of_lt_of_le HL2.out hbx.size
              have YR := hid y1
              clear y1 hb own hrr rg hbx hgb hgl
              go_wp2_with fail
              refine (build_any w2.heap.size 0 n n Z wr (by omega) HEL.out RE.out).mono ?_
              rintro e w4 ⟨g4, cap4, rfl, hc4, hg4, hr4, hb4⟩
              have HB4 := hid hb4
              have CT4 := hid (zz_paid' g4 0 n cap4 Z w4 hn hc4 (by omega) hg4 hr4 false (by simpa using HY.out) 0 (rfl))
              clear hb4 hr4 hg4
              go_wp2_with fail
              refine CT4.out.mono ?_
              rintro e w5 ⟨rfl, hb5⟩
              have HB5 := hid (below_chain HB4.out hb5)
              clear hb5 CT4 HB4
              go_wp2_with fail
              refine (build_any g 0 (n + 1) cap (ins Z t (col x0 x1 x2 x3)) w5 (by omega) (Nat.lt_of_lt_of_le HGL.out HB5.out.size) (RG.out.below HGL.out HB5.out)).mono ?_
              rintro e w6 ⟨g6, cap6, rfl, hc6, hg6, hr6, hb6⟩
              have HB6 := hid (below_chain HB5.out hb6)
              have CT6 := hid (zz_paid' g6 0 (n + 1) cap6 (ins Z t (col x0 x1 x2 x3)) w6 (by omega) hc6 (by omega) hg6 hr6 false (⟨fun h => (by cases h), fun h => absurd ((ins_all hn ht).1 h).1 HY.out⟩) 0 (rfl))
              clear hb6 hr6 hg6 HB5
              go_wp2_with fail
              refine CT6.out.mono ?_
              rintro e w7 ⟨rfl, hb7⟩
              have HB7 := hid (below_chain HB6.out hb7)
              clear hb7 CT6 HB6
              have yz : w7.cell? ⟨w.heap.size, 1, none⟩ = some (.int .i64 x1) := (HB7.out.cell (p := ⟨w.heap.size, 1, none⟩) HBX.out).trans YR.out
              skip
              go_wp2_with fail
              go_ret
              exact ⟨rfl, below_chain FB.out HB7.out⟩

end Go.Proofs.Qxb6608960a
