/- The small walks of hearthcredit's laws on 'same', at this seat's dump. -/
import Derived.Test.Qxb6608960aProg
import Derived.WalkKit
import Derived.WalkSpells
import Derived.RowKit3
import Derived.Outline
import Derived.Deep.OwnRows
import Derived.Deep.LoopGhost
import Derived.Below
namespace Go.Proofs.Qxb6608960a
open Go.RowKit

theorem new_any (p0 p1 p2 p3 : Int) (w : World) :
    Calls Try.prog 25 #[.int .i64 p0, .int .i64 p1, .int .i64 p2, .int .i64 p3] w fun e w' => e = .returned (.agg #[.int .i64 p0, .int .i64 p1, .int .i64 p2, .int .i64 p3]) ∧ w' = w.alloc (.cells #[.int .i64 p0, .int .i64 p1, .int .i64 p2, .int .i64 p3] 68) := by
  go_enter Try.func25, Try.ntmps25
  go_wp2
  exact bodyPost_ret (v := .agg #[.int .i64 p0, .int .i64 p1, .int .i64 p2, .int .i64 p3]) (by simp [results, Try.results25, go_sem]) rfl ⟨rfl, by simp⟩
theorem prem_any (p0 p1 p2 p3 : Int) (w : World) :
    Calls Try.prog 24 #[.agg #[.int .i64 p0, .int .i64 p1, .int .i64 p2, .int .i64 p3]] w fun e w' => e = .returned (.int .i64 p0) ∧ w' = w.alloc (.cells #[.int .i64 p0, .int .i64 p1, .int .i64 p2, .int .i64 p3] 68) := by
  go_enter Try.func24, Try.ntmps24
  go_wp2
  go_ret
  exact ⟨rfl, rfl⟩
theorem paid_any (p0 p1 p2 p3 : Int) (w : World) :
    Calls Try.prog 26 #[.agg #[.int .i64 p0, .int .i64 p1, .int .i64 p2, .int .i64 p3]] w fun e w' => e = .returned (.int .i64 p1) ∧ w' = w.alloc (.cells #[.int .i64 p0, .int .i64 p1, .int .i64 p2, .int .i64 p3] 68) := by
  go_enter Try.func26, Try.ntmps26
  go_wp2
  go_ret
  exact ⟨rfl, rfl⟩
theorem bytes4_any (s : Option Addr) (n c : Nat) (cut : Int) (w : World) (hn : n ≤ 1048576) :
    Calls Try.prog 10 #[.slice s n c, .int .i64 cut] w fun e w' => e = .returned (.bool true) ∧ w' = w := by
  go_enter Try.func10, Try.ntmps10
  go_wp2
  go_ret
  exact ⟨rfl, rfl⟩
theorem bytes4_big (s : Option Addr) (n c : Nat) (cut : Int) (w : World) (hn : 1048576 < n) :
    Calls Try.prog 10 #[.slice s n c, .int .i64 cut] w fun e w' => e = .returned (.bool false) ∧ w' = w := by
  go_enter Try.func10, Try.ntmps10
  go_wp2
  go_ret
  exact ⟨rfl, rfl⟩


theorem hid {p : Prop} (h : p) : Hid p := h
theorem info33 : (Try.prog.info? 33).map (fun i => (i.zero, i.size, i.bytes)) = some (some (.agg #[.int .i64 0, .int .i64 0, .int .i64 0, .int .i64 0]), 4, 32) := by kernel_rfl
theorem info68 : (Try.prog.info? 68).map (fun i => (i.zero, i.size, i.bytes)) = some (some (.agg #[.int .i64 0, .int .i64 0, .int .i64 0, .int .i64 0]), 4, 32) := by kernel_rfl

/-- make of a slice whose element is four integers. -/
theorem run_make_four (t e : TypeId) (ht : Try.prog.underlying t = some (.slice e)) (hinfo : (Try.prog.info? e).map (fun i => (i.zero, i.size, i.bytes)) = some (some (.agg #[.int .i64 0, .int .i64 0, .int .i64 0, .int .i64 0]), 4, 32))
    (l c : Nat) (hlc : l ≤ c) (hc : c ≤ 1048577) (w : World) :
    (Instr.makeSlice t (.int .i64 (l : Int)) (.int .i64 (c : Int))).run Try.prog w = .ok (.slice (some ⟨w.heap.size, 0, none⟩) l c) (w.alloc (.cells (madeCells #[.int .i64 0] (4 * c)) e)) := by
  obtain ⟨i, hi, hzz⟩ := Option.map_eq_some_iff.1 hinfo
  simp only [Prod.mk.injEq] at hzz
  obtain ⟨hz, hs, hb⟩ := hzz
  have hr := run_make (P := Try.prog) w t e i _ ht hi hz .i64 .i64 l c (by omega) (by omega) (by rw [hb]; omega) (by omega)
  rw [hr, hs]
  have hcells : (Value.agg #[.int .i64 0, .int .i64 0, .int .i64 0, .int .i64 0]).cells = #[.int .i64 0, .int .i64 0, .int .i64 0, .int .i64 0] := rfl
  have : madeCells #[.int .i64 0, .int .i64 0, .int .i64 0, .int .i64 0] (c * 4) = madeCells #[.int .i64 0] (4 * c) := by
    unfold madeCells
    rw [Nat.mul_comm c 4]
    apply Array.map_congr_left
    intro j _
    have : j % 4 = 0 ∨ j % 4 = 1 ∨ j % 4 = 2 ∨ j % 4 = 3 := by omega
    rcases this with h | h | h | h <;> simp [h, Nat.mod_one]
  simp only [Int.toNat_natCast]
  rw [hcells, this]

/-- The clone of enrollees: 'Rd': n enrollees lie from cell o on of block b. -/
def Rd (w : World) (b o n : Nat) (Z : Nat → Nat → Int) : Prop := ∀ i, i < n → ∀ j, j < 4 → w.cell? ⟨b, o + i * 4 + j, none⟩ = some (.int .i64 (Z i j))

theorem clone_any (b o n c : Nat) (Z : Nat → Nat → Int) (w : World) (hn : 0 < n) (hm : n ≤ 32768) (hbw : b < w.heap.size) (hr : Rd w b o n Z) :
    Calls Try.prog 11 #[.slice (some ⟨b, o, none⟩) n c] w fun e w' => e = .returned (.slice (some ⟨w.heap.size, 0, none⟩) n n) ∧ Rd w' w.heap.size 0 n Z ∧ Below w.heap.size w w' := by
  have hmk := run_make_four 29 33 Try.underlying29 info33 n n (Nat.le_refl _) (by omega)
  have he : ∀ w : World, (binOp .eql 29 (.slice (some ⟨b, o, none⟩) n c) (.slice none 0 0)).run Try.prog w = .ok (.bool false) w := fun _ => rfl
  have HR := hid hr
  clear hr
  go_enter Try.func11, Try.ntmps11
  go_wp2_with fail
  go_loopg [4] n (fun gn i wr => ∃ k : Nat, k + gn = n ∧ i = .int .i64 k ∧ Below w.heap.size w wr ∧ ∃ F : Nat → Value, wr.rowIs w.heap.size 33 (4 * n) F ∧ ∀ i, i < k → ∀ j, j < 4 → F (i * 4 + j) = .int .i64 (Z i j))
  case atStart => exact ⟨0, by omega, rfl, (Below.refl _ _).alloc (Nat.le_refl _) _, _, World.rowIs_made w (.int .i64 0) (4 * n) 33, fun i hi => by omega⟩
  case round =>
    obtain ⟨k, hk, rfl, hb, F, hrow, hf⟩ := hrel
    by_cases hlt : k < n
    · have r0 : wr.cell? ⟨b, o + k * 4, none⟩ = some (.int .i64 (Z k 0)) := (hb.cell (p := ⟨b, o + k * 4, none⟩) hbw).trans (HR.out k hlt 0 (by omega))
      have r1 : wr.cell? ⟨b, o + k * 4 + 1, none⟩ = some (.int .i64 (Z k 1)) := (hb.cell (p := ⟨b, o + k * 4 + 1, none⟩) hbw).trans (HR.out k hlt 1 (by omega))
      have r2 : wr.cell? ⟨b, o + k * 4 + 2, none⟩ = some (.int .i64 (Z k 2)) := (hb.cell (p := ⟨b, o + k * 4 + 2, none⟩) hbw).trans (HR.out k hlt 2 (by omega))
      have r3 : wr.cell? ⟨b, o + k * 4 + 3, none⟩ = some (.int .i64 (Z k 3)) := (hb.cell (p := ⟨b, o + k * 4 + 3, none⟩) hbw).trans (HR.out k hlt 3 (by omega))
      have f0 := hrow.frozen (k * 4)
      have f1 := hrow.frozen (k * 4 + 1)
      have f2 := hrow.frozen (k * 4 + 2)
      have f3 := hrow.frozen (k * 4 + 3)
      have g0 : wr.cell? ⟨w.heap.size, k * 4, none⟩ = some (F (k * 4)) := hrow.cell (by omega)
      have g1 : wr.cell? ⟨w.heap.size, k * 4 + 1, none⟩ = some (F (k * 4 + 1)) := hrow.cell (by omega)
      have g2 : wr.cell? ⟨w.heap.size, k * 4 + 2, none⟩ = some (F (k * 4 + 2)) := hrow.cell (by omega)
      have g3 : wr.cell? ⟨w.heap.size, k * 4 + 3, none⟩ = some (F (k * 4 + 3)) := hrow.cell (by omega)
      have HB := hid hb
      have HW := hid hrow
      have HF := hid hf
      have HK := hid hk
      clear hb hrow hf hk
      go_wp2_with fail
      go_roundg (gk - 1)
      case measure => have := HK.out; omega
      case rel =>
        refine ⟨k + 1, by have := HK.out; omega, by go_num, (((HB.out.setCell (p := ⟨w.heap.size, k * 4, none⟩) (Nat.le_refl _) _).setCell (p := ⟨w.heap.size, k * 4 + 1, none⟩) (Nat.le_refl _) _).setCell (p := ⟨w.heap.size, k * 4 + 2, none⟩) (Nat.le_refl _) _).setCell (p := ⟨w.heap.size, k * 4 + 3, none⟩) (Nat.le_refl _) _, _, (((HW.out.set (k * 4) _).set (k * 4 + 1) _).set (k * 4 + 2) _).set (k * 4 + 3) _, ?_⟩
        intro i hi j hj
        by_cases e : i = k
        · subst e
          have hj' : j = 0 ∨ j = 1 ∨ j = 2 ∨ j = 3 := by omega
          rcases hj' with rfl | rfl | rfl | rfl <;> simp
        · rw [if_neg (by omega), if_neg (by omega), if_neg (by omega), if_neg (by omega)]
          exact HF.out i (by omega) j hj
    · have hkl : k = n := by omega
      have HB := hid hb
      have HW := hid hrow
      have HF := hid hf
      clear hb hrow hf hk
      go_wp2_with fail
      go_ret
      refine ⟨rfl, fun i hi j hj => ?_, HB.out⟩
      have := HW.out.cell (i := i * 4 + j) (by omega)
      rw [HF.out i (by omega) j hj] at this
      simpa using this
end Go.Proofs.Qxb6608960a
