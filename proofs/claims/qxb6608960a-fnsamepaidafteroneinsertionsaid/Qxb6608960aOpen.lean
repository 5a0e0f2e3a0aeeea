/- A slice of enrollees that came in, opened: every cell an integer. -/
import Derived.Test.Qxb6608960aWa
import Derived.Deep.Slices
import Derived.Deep.Fields
import Derived.ProofKit
import Derived.OpenShut
namespace Go.Proofs.Qxb6608960a
open Go.ChangeShapes Go.WideShapes Go.RowKit Go.Deep

theorem cells33 : Try.prog.cellsOf 33 = 4 := by kernel_rfl

/-- One enrollee's four cells. -/
theorem four_of_trod {H : Type} {enc : TypeId × Value → H} {w : World} {fuel : Nat} {cs : List Value} {x : DataW H × List MemPlace}
    (h : DataW.trod enc Try.prog w 0 (fun _ => true) true fuel 33 cs = some x) : cs.length = 4 ∧ ∀ j, j < 4 → ∃ z : Int, cs[j]? = some (.int .i64 z) := by
  obtain ⟨xs, n, _, _, hl, hxl, hf⟩ := DataW.trod_struct Try.underlying33 h
  rw [cells33] at hl
  refine ⟨hl, fun j hj => ?_⟩
  have hj' : j = 0 ∨ j = 1 ∨ j = 2 ∨ j = 3 := by omega
  have hsz : xs.length = 4 := by simpa using hxl
  have key : ∀ (f : Field), f.type = 2 → f.offset = j → DataW.trod enc Try.prog w 0 (fun _ => true) true n f.type ((cs.drop f.offset).take (Try.prog.cellsOf f.type)) = xs[j]? → ∃ z : Int, cs[j]? = some (.int .i64 z) := by
    intro f ht ho g
    rw [ht, ho, show Try.prog.cellsOf 2 = 1 by kernel_rfl, take1_drop cs j undef (by omega), List.getElem?_eq_getElem (by omega)] at g
    obtain ⟨z, hz, _⟩ := DataW.trod_int Try.underlying2 g
    refine ⟨z, ?_⟩
    rw [List.getElem?_eq_getElem (by omega)]
    simp only [List.cons.injEq, and_true, List.getD_eq_getElem?_getD, List.getElem?_eq_getElem (show j < cs.length by omega), Option.getD_some] at hz
    rw [hz]
  rcases hj' with rfl | rfl | rfl | rfl
  · exact key _ rfl rfl (hf 0 _ rfl)
  · exact key _ rfl rfl (hf 1 _ rfl)
  · exact key _ rfl rfl (hf 2 _ rfl)
  · exact key _ rfl rfl (hf 3 _ rfl)

/-- What the walk is told of a slice of enrollees that came in. -/
def IsRow4 (w : World) (a : Option Addr) (len : Nat) : Prop := len = 0 ∨ ∃ (b o : Nat) (Z : Nat → Nat → Int), a = some ⟨b, o, none⟩ ∧ b < w.heap.size ∧ Rd w b o len Z

theorem row4_of_trod {H : Type} {enc : TypeId × Value → H} {w : World} {fuel : Nat} {a : Option Addr} {len cap : Nat} {x : DataW H × List MemPlace}
    (h : DataW.trod enc Try.prog w 0 (fun _ => true) true fuel 29 [.slice a len cap] = some x) : IsRow4 w a len := by
  rcases open_slice Try.underlying29 h with ⟨hcs, _⟩ | ⟨a', l', c', m, n, D, Pl, hcs, _, hlc, _, hm, _, hel⟩
  · simp at hcs
    exact .inl hcs.2.1
  · simp at hcs
    obtain ⟨rfl, rfl, rfl⟩ := hcs
    by_cases h0 : len = 0
    · exact .inl h0
    have hmc : m = cap := by rw [hm]; simp
    subst hmc
    right
    have hall : ∀ i, i < len → ∀ j, j < 4 → ∃ z : Int, w.cell? (a'.add (i * 4 + j)) = some (.int .i64 z) := by
      intro i hi j hj
      obtain ⟨cs', hc, ht⟩ := hel i (by omega)
      rw [cells33] at hc
      obtain ⟨_, hl, hcell⟩ := World.cells?_some hc
      obtain ⟨_, hz⟩ := four_of_trod ht
      obtain ⟨z, hz⟩ := hz j hj
      refine ⟨z, ?_⟩
      have := hcell j hj
      rw [add_add] at this
      rw [this, hz]
    obtain ⟨b, o, spot⟩ := a'
    have hspot : spot = none := by
      obtain ⟨z, hz⟩ := hall 0 (by omega) 0 (by omega)
      simpa [Addr.add] using World.cell?_spot hz
    subst hspot
    have hadd : ∀ j, (⟨b, o, none⟩ : Addr).add j = ⟨b, o + j, none⟩ := fun j => add_plain b o j
    refine ⟨b, o, fun i j => match w.cell? ⟨b, o + i * 4 + j, none⟩ with | some (.int _ z) => z | _ => 0, rfl, ?_, fun i hi j hj => ?_⟩
    · obtain ⟨z, hz⟩ := hall 0 (by omega) 0 (by omega)
      have := block_lt_of_cell hz
      rw [hadd] at this
      exact this
    · obtain ⟨z, hz⟩ := hall i hi j hj
      rw [hadd, ← Nat.add_assoc] at hz
      simp only [hz]
end Go.Proofs.Qxb6608960a
