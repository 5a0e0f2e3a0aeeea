/- Walks over rand.Rand, at this seat's dump. -/
import Derived.Test.Qxb6615739aRandB
namespace Go.Proofs.Qxb6615739a
open Go.RowKit
open Pcg (stHi stLo outp)
set_option linter.unusedVariables false

/-- The generator lies in block r; its source is the PCG in block b. -/
def RandAt (w : World) (r b : Nat) : Prop := w.heap[r]? = some (.cells #[.iface 51 (.pointer (some ⟨b, 0, none⟩))] 72 (0, 0))
theorem RandAt.cell0 {w : World} {r b : Nat} (hb : RandAt w r b) : w.cell? ⟨r, 0, none⟩ = some (.iface 51 (.pointer (some ⟨b, 0, none⟩))) := by unfold RandAt at hb; simp [World.cell?, hb]
theorem RandAt.lt {w : World} {r b : Nat} (hb : RandAt w r b) : r < w.heap.size := (Array.getElem?_eq_some_iff.1 hb).1
theorem RandAt.of_block {w w' : World} {r b : Nat} (hb : RandAt w r b) (h : w'.heap[r]? = w.heap[r]?) : RandAt w' r b := by unfold RandAt at *; rw [h]; exact hb

theorem meth95 (a : Addr) (w : World) : (method 245 51 (.pointer (some a)) "Uint64").run Try.prog w = .ok (95, .pointer (some a)) w := by kernel_rfl

set_option maxHeartbeats 400000 in
theorem rand64_any (r b hi lo : Nat) (w : World) (hr : RandAt w r b) (hb : PcgAt w b hi lo) (hhi : hi < 18446744073709551616) (hlo : lo < 18446744073709551616) :
    Calls Try.prog 42 #[.pointer (some ⟨r, 0, none⟩)] w fun e w' => e = .returned (.int .u64 (outp (stHi hi lo) (stLo lo) : Nat)) ∧ PcgAt w' b (stHi hi lo) (stLo lo) ∧ But b w w' := by
  have c := hid (pcg_any b hi lo w hb hhi hlo)
  have c0 := hr.cell0
  have hm := meth95
  clear hr hb
  go_enter Try.func42, Try.ntmps42
  go_wp2_with fail
  refine c.out.mono ?_
  rintro e w1 ⟨rfl, p1, q1⟩
  have P1 := hid p1
  have Q1 := hid q1
  clear p1 q1
  go_wp2_with fail
  go_ret
  exact ⟨rfl, P1.out, Q1.out⟩
end Go.Proofs.Qxb6615739a
