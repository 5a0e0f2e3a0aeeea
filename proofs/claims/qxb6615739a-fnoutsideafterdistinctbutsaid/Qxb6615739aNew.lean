/- ZZnewSampler and ZZdrawIntN, at this seat's dump. -/
import Derived.Test.Qxb6615739aRandE
namespace Go.Proofs.Qxb6615739a
open Go.RowKit
set_option linter.unusedVariables false

def pcgObj (s1 s2 : Nat) : Obj := .cells #[.int .u64 s1, .int .u64 s2] 74
def randObj (b : Nat) : Obj := .cells #[.iface 51 (.pointer (some ⟨b, 0, none⟩))] 72
def samObj (r : Nat) : Obj := .cells #[.pointer (some ⟨r, 0, none⟩), .slice none 0 0, .int .u64 0, .slice none 0 0] 68

set_option maxHeartbeats 400000 in
theorem new_any (s1 s2 : Nat) (w : World) :
    Calls Try.prog 9 #[.int .u64 s1, .int .u64 s2] w fun e w' => e = .returned (.pointer (some ⟨w.heap.size + 2, 0, none⟩)) ∧ w' = ((w.alloc (pcgObj s1 s2)).alloc (randObj w.heap.size)).alloc (samObj (w.heap.size + 1)) := by
  go_enter Try.func9, Try.ntmps9
  go_wp2
  go_ret
  exact ⟨rfl, rfl⟩

theorem newpcg_any (s1 s2 : Nat) (w : World) :
    Calls Try.prog 25 #[.int .u64 s1, .int .u64 s2] w fun e w' => e = .returned (.pointer (some ⟨w.heap.size, 0, none⟩)) ∧ w' = w.alloc (pcgObj s1 s2) := by
  go_enter Try.func25, Try.ntmps25
  go_wp2
  go_ret
  exact ⟨rfl, rfl⟩
theorem newrand_any (b : Nat) (w : World) :
    Calls Try.prog 24 #[.iface 51 (.pointer (some ⟨b, 0, none⟩))] w fun e w' => e = .returned (.pointer (some ⟨w.heap.size, 0, none⟩)) ∧ w' = w.alloc (randObj b) := by
  go_enter Try.func24, Try.ntmps24
  go_wp2
  go_ret
  exact ⟨rfl, rfl⟩

theorem heap_top (w : World) (o : Obj) (k : Nat) (h : k = w.heap.size) : (w.alloc o).heap[k]? = some o := by
  subst h
  show (w.heap.push o)[w.heap.size]? = _
  simp
theorem heap_under (w : World) (o : Obj) (k : Nat) (h : k < w.heap.size) : (w.alloc o).heap[k]? = w.heap[k]? := Below.heap_alloc w o k h

set_option maxHeartbeats 400000 in
theorem draw_any (s1 s2 n : Nat) (w : World) (h1 : s1 < 18446744073709551616) (h2 : s2 < 18446744073709551616) (hn1 : 1 ≤ n) (hn2 : n ≤ 1000000) :
    Calls Try.prog 11 #[.int .u64 s1, .int .u64 s2, .int .i64 n] w fun e w' => ∃ v hi' lo' : Nat, e = .returned (.int .i64 v) ∧ v < n ∧ Draws s1 s2 n v hi' lo' ∧ Below w.heap.size w w' := by
  have hr : RandAt ((w.alloc (pcgObj s1 s2)).alloc (randObj w.heap.size)) (w.heap.size + 1) w.heap.size := heap_top _ _ _ (by simp)
  have hb : PcgAt ((w.alloc (pcgObj s1 s2)).alloc (randObj w.heap.size)) w.heap.size s1 s2 := (heap_under _ _ _ (by simp)).trans (heap_top _ _ _ rfl)
  have c := hid (intn_any (w.heap.size + 1) w.heap.size s1 s2 n _ hr hb h1 h2 hn1 hn2)
  clear hr hb
  go_enter Try.func11, Try.ntmps11
  go_wp2_with fail
  refine (newpcg_any s1 s2 _).mono ?_
  rintro e w1 ⟨rfl, rfl⟩
  go_wp2_with fail
  refine (newrand_any _ _).mono ?_
  rintro e w1 ⟨rfl, rfl⟩
  go_wp2_with fail
  refine c.out.mono ?_
  rintro e w1 ⟨v, hi', lo', rfl, hv, hd, hp, hq⟩
  have HD := hid hd
  have HQ := hid hq
  clear hd hq hp
  go_wp2_with fail
  go_ret
  exact ⟨v, hi', lo', rfl, hv, HD.out, (((Below.refl _ _).alloc (Nat.le_refl _) _).alloc (by simp) _).trans (HQ.out.below (by simp; omega) (Nat.le_refl _))⟩
end Go.Proofs.Qxb6615739a
