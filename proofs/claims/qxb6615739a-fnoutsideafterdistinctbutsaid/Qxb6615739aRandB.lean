/- Walks over the PCG source, at this seat's dump. -/
import Derived.Test.Qxb6615739aRandA
import Derived.Test.Qxb6615739aPcg
namespace Go.Proofs.Qxb6615739a
open Go.RowKit
set_option linter.unusedVariables false

theorem hid {p : Prop} (h : p) : Hid p := h

/-- Of what was there, block b alone may have turned; blocks may have come. -/
structure But (b : Nat) (w w' : World) : Prop where
  os : w'.os = w.os
  tape : w'.tape = w.tape
  output : w'.output = w.output
  size : w.heap.size ≤ w'.heap.size
  block : ∀ k, k < w.heap.size → k ≠ b → w'.heap[k]? = w.heap[k]?

theorem But.refl (b : Nat) (w : World) : But b w w := ⟨rfl, rfl, rfl, Nat.le_refl _, fun _ _ _ => rfl⟩
theorem But.trans {b : Nat} {u v w : World} (h : But b u v) (k : But b v w) : But b u w :=
  ⟨k.os.trans h.os, k.tape.trans h.tape, k.output.trans h.output, Nat.le_trans h.size k.size, fun i hi hb => (k.block i (Nat.lt_of_lt_of_le hi h.size) hb).trans (h.block i hi hb)⟩
theorem But.setCell {b : Nat} {u w : World} (h : But b u w) {p : Addr} (hp : p.block = b) (v : Value) : But b u (w.setCell p v) :=
  h.trans ⟨rfl, rfl, rfl, by simp [World.setCell], fun k _ hk => Below.heap_setCell _ _ _ _ (by omega)⟩
theorem But.drew {b : Nat} {u w : World} (h : But b u w) : But b u w.drew := ⟨h.os, h.tape, h.output, h.size, h.block⟩
theorem But.drewN {b : Nat} {u w : World} (h : But b u w) (n : Nat) : But b u (w.drewN n) := ⟨h.os, h.tape, h.output, h.size, h.block⟩
theorem But.alloc {b : Nat} {u w : World} (h : But b u w) (o : Obj) : But b u (w.alloc o) :=
  h.trans ⟨rfl, rfl, rfl, by simp, fun k hk _ => Below.heap_alloc _ _ _ hk⟩
theorem But.below {b B : Nat} {w w' : World} (h : But b w w') (h1 : B ≤ w.heap.size) (h2 : B ≤ b) : Below B w w' :=
  ⟨h.os, h.tape, h.output, h.size, fun k hk => h.block k (by omega) (by omega)⟩
theorem But.cell {b : Nat} {w w' : World} (h : But b w w') {p : Addr} (h1 : p.block < w.heap.size) (h2 : p.block ≠ b) : w'.cell? p = w.cell? p := World.cell?_of_block (w := w) (h.block p.block h1 h2)
theorem But.frozen {b : Nat} {w w' : World} (h : But b w w') {p : Addr} (h1 : p.block < w.heap.size) (h2 : p.block ≠ b) : w'.frozen? p = w.frozen? p := World.frozen?_of_block (w := w) (h.block p.block h1 h2)

/-- The source's two words lie in block b. -/
def PcgAt (w : World) (b hi lo : Nat) : Prop := w.heap[b]? = some (.cells #[.int .u64 hi, .int .u64 lo] 74 (0, 0))

theorem PcgAt.cell0 {w : World} {b hi lo : Nat} (hb : PcgAt w b hi lo) : w.cell? ⟨b, 0, none⟩ = some (.int .u64 hi) := by unfold PcgAt at hb; simp [World.cell?, hb]
theorem PcgAt.cell1 {w : World} {b hi lo : Nat} (hb : PcgAt w b hi lo) : w.cell? ⟨b, 1, none⟩ = some (.int .u64 lo) := by unfold PcgAt at hb; simp [World.cell?, hb]
theorem PcgAt.frozen0 {w : World} {b hi lo : Nat} (hb : PcgAt w b hi lo) : w.frozen? ⟨b, 0, none⟩ = false := by unfold PcgAt at hb; simp [World.frozen?, hb]
theorem PcgAt.frozen1 {w : World} {b hi lo : Nat} (hb : PcgAt w b hi lo) : w.frozen? ⟨b, 1, none⟩ = false := by unfold PcgAt at hb; simp [World.frozen?, hb]
theorem PcgAt.lt {w : World} {b hi lo : Nat} (hb : PcgAt w b hi lo) : b < w.heap.size := (Array.getElem?_eq_some_iff.1 hb).1

/-- The same words in another world in which block b is as it was. -/
theorem PcgAt.of_block {w w' : World} {b hi lo : Nat} (hb : PcgAt w b hi lo) (h : w'.heap[b]? = w.heap[b]?) : PcgAt w' b hi lo := by unfold PcgAt at *; rw [h]; exact hb

theorem PcgAt.set {w : World} {b hi lo : Nat} (hb : PcgAt w b hi lo) (hi' lo' : Nat) (n : Nat) :
    PcgAt (((w.drewN n).setCell ⟨b, 1, none⟩ (.int .u64 lo')).setCell ⟨b, 0, none⟩ (.int .u64 hi')) b hi' lo' := by
  unfold PcgAt at *
  simp [World.setCell, Array.getElem?_modify, hb]

theorem add64_0 (x y : Int) (hx : 0 ≤ x) (hy : 0 ≤ y) (w : World) : (callFunc 97 #[.int .u64 x, .int .u64 y, .int .u64 0]).run Try.prog w =
    .ok (.value (.tuple #[.int .u64 ((x + y) % 18446744073709551616), .int .u64 ((x + y) / 18446744073709551616)])) w := by
  obtain ⟨x, rfl⟩ := Int.eq_ofNat_of_zero_le hx
  obtain ⟨y, rfl⟩ := Int.eq_ofNat_of_zero_le hy
  refine (add64 x y 0 (by omega) w).trans ?_
  congr 5 <;> omega
theorem add64_c (x y c : Int) (hx : 0 ≤ x) (hy : 0 ≤ y) (h0 : 0 ≤ c) (h1 : c ≤ 1) (w : World) : (callFunc 97 #[.int .u64 x, .int .u64 y, .int .u64 c]).run Try.prog w =
    .ok (.value (.tuple #[.int .u64 ((x + y + c) % 18446744073709551616), .int .u64 ((x + y + c) / 18446744073709551616)])) w := by
  obtain ⟨x, rfl⟩ := Int.eq_ofNat_of_zero_le hx
  obtain ⟨y, rfl⟩ := Int.eq_ofNat_of_zero_le hy
  obtain ⟨c, rfl⟩ := Int.eq_ofNat_of_zero_le h0
  refine (add64 x y c (by omega) w).trans ?_
  congr 5 <;> omega


open Pcg (stHi stLo)

theorem sum_mod (m x y q : Nat) : (((m : Int) + ((x : Int) % 18446744073709551616 + (y : Int) % 18446744073709551616) % 18446744073709551616) % 18446744073709551616 + 6364136223846793005 + (q : Int)) % 18446744073709551616 = (((m + x + y + 6364136223846793005 + q) % 18446744073709551616 : Nat) : Int) := by omega

theorem stHi_int (hi lo : Nat) : (IntKind.u64.wrap (((lo * 4865540595714422341 / 18446744073709551616 : Nat) : Int) + IntKind.u64.wrap (IntKind.u64.wrap ((hi : Int) * 4865540595714422341) + IntKind.u64.wrap ((lo : Int) * 2549297995355413924))) + 6364136223846793005 + (((lo * 4865540595714422341 % 18446744073709551616 : Nat) : Int) + 1442695040888963407) / 18446744073709551616) % 18446744073709551616 = ((stHi hi lo : Nat) : Int) := by
  unfold stHi
  simp only [IntKind.wrap_u64]
  have e1 : (((lo * 4865540595714422341 % 18446744073709551616 : Nat) : Int) + 1442695040888963407) / 18446744073709551616 = (((lo * 4865540595714422341 % 18446744073709551616 + 1442695040888963407) / 18446744073709551616 : Nat) : Int) := by omega
  rw [e1]
  generalize (lo * 4865540595714422341 % 18446744073709551616 + 1442695040888963407) / 18446744073709551616 = q
  generalize lo * 4865540595714422341 / 18446744073709551616 = m
  have e2 : (hi : Int) * 4865540595714422341 = ((hi * 4865540595714422341 : Nat) : Int) := by omega
  have e3 : (lo : Int) * 2549297995355413924 = ((lo * 2549297995355413924 : Nat) : Int) := by omega
  rw [e2, e3]
  exact sum_mod m _ _ q
theorem stLo_int (lo : Nat) : (((lo * 4865540595714422341 % 18446744073709551616 : Nat) : Int) + 1442695040888963407) % 18446744073709551616 = ((stLo lo : Nat) : Int) := by
  unfold stLo
  omega
theorem ret_pair {a b c d : Int} (h1 : a = c) (h2 : b = d) : Ending.returned (.tuple #[.int .u64 a, .int .u64 b]) = .returned (.tuple #[.int .u64 c, .int .u64 d]) := by rw [h1, h2]

set_option maxHeartbeats 400000 in
theorem next_any (b hi lo : Nat) (w : World) (hb : PcgAt w b hi lo) (hhi : hi < 18446744073709551616) (hlo : lo < 18446744073709551616) :
    Calls Try.prog 96 #[.pointer (some ⟨b, 0, none⟩)] w fun e w' => e = .returned (.tuple #[.int .u64 (stHi hi lo : Nat), .int .u64 (stLo lo : Nat)]) ∧ PcgAt w' b (stHi hi lo) (stLo lo) ∧ But b w w' := by
  have c0 := hb.cell0
  have c1 := hb.cell1
  have f0 := hb.frozen0
  have f1 := hb.frozen1
  have HB := hid hb
  clear hb
  have cm := hid (mul64 lo 4865540595714422341 hlo (by omega) w)
  have E1 := hid (stHi_int hi lo)
  have E2 := hid (stLo_int lo)
  have hm2 : lo * 4865540595714422341 % 18446744073709551616 < 18446744073709551616 := Nat.mod_lt _ (by decide)
  generalize lo * 4865540595714422341 / 18446744073709551616 = mh at *
  generalize lo * 4865540595714422341 % 18446744073709551616 = ml at *
  go_enter Try.func96, Try.ntmps96
  go_wp2_with fail
  refine cm.out.mono ?_
  rintro e w1 ⟨rfl, hw1⟩
  subst hw1
  go_wp2_with fail
  go_quiet (fail)
  have hml : (0 : Int) ≤ (ml : Int) := Int.natCast_nonneg ml
  have k0 : (0 : Int) ≤ ((ml : Int) + 1442695040888963407) / 18446744073709551616 := by omega
  have k1 : ((ml : Int) + 1442695040888963407) / 18446744073709551616 ≤ 1 := by omega
  go_wp2_with (first | simp only [add64_0 (ml : Int) 1442695040888963407 hml (by decide)] | simp only [add64_c _ 6364136223846793005 _ (wrap_u64_nonneg _) (by decide) k0 k1])
  rw [E1.out, E2.out]
  go_ret2
  exact ⟨rfl, HB.out.set _ _ _, (((But.refl _ _).drewN _).setCell (p := ⟨b, 1, none⟩) rfl _).setCell (p := ⟨b, 0, none⟩) rfl _⟩

open Pcg (outp)

theorem outp_int (x y : Nat) (hx : x < 18446744073709551616) (hy : y < 18446744073709551616) :
    IntKind.u64.wrap (bits .xor .u64 (IntKind.u64.wrap (bits .xor .u64 (x : Int) ((x : Int) / 4294967296) * 15750249268501108917)) (IntKind.u64.wrap (bits .xor .u64 (x : Int) ((x : Int) / 4294967296) * 15750249268501108917) / 281474976710656) * bits .or .u64 (y : Int) 1) = ((outp x y : Nat) : Int) := by
  have e1 : bits .xor .u64 (x : Int) ((x : Int) / 4294967296) = ((x ^^^ x / 4294967296 : Nat) : Int) := xorShift_u64 x 4294967296 hx
  rw [e1]
  have e2 : IntKind.u64.wrap (((x ^^^ x / 4294967296 : Nat) : Int) * 15750249268501108917) = (((x ^^^ x / 4294967296) * 15750249268501108917 % 18446744073709551616 : Nat) : Int) := by
    rw [IntKind.wrap_u64]
    generalize x ^^^ x / 4294967296 = z
    omega
  rw [e2]
  have hz : (x ^^^ x / 4294967296) * 15750249268501108917 % 18446744073709551616 < 18446744073709551616 := Nat.mod_lt _ (by decide)
  unfold outp
  simp only []
  generalize (x ^^^ x / 4294967296) * 15750249268501108917 % 18446744073709551616 = z at *
  have e3 : bits .xor .u64 (z : Int) ((z : Int) / 281474976710656) = ((z ^^^ z / 281474976710656 : Nat) : Int) := xorShift_u64 z 281474976710656 hz
  have e4 : bits .or .u64 (y : Int) 1 = ((y ||| 1 : Nat) : Int) := bits_or_u64_nat y 1 hy (by omega)
  rw [e3, e4, ← Int.natCast_mul, IntKind.wrap_u64]
  generalize (z ^^^ z / 281474976710656) * (y ||| 1) = v
  omega
theorem ret_u64 {a b : Int} (h : a = b) : Ending.returned (.int .u64 a) = .returned (.int .u64 b) := by rw [h]

set_option maxHeartbeats 400000 in
theorem pcg_any (b hi lo : Nat) (w : World) (hb : PcgAt w b hi lo) (hhi : hi < 18446744073709551616) (hlo : lo < 18446744073709551616) :
    Calls Try.prog 95 #[.pointer (some ⟨b, 0, none⟩)] w fun e w' => e = .returned (.int .u64 (outp (stHi hi lo) (stLo lo) : Nat)) ∧ PcgAt w' b (stHi hi lo) (stLo lo) ∧ But b w w' := by
  have cn := hid (next_any b hi lo w hb hhi hlo)
  have h1 := Pcg.stHi_lt hi lo
  have h2 := Pcg.stLo_lt lo
  clear hb
  generalize stHi hi lo = x at *
  generalize stLo lo = y at *
  go_enter Try.func95, Try.ntmps95
  go_wp2_with fail
  refine cn.out.mono ?_
  rintro e w1 ⟨rfl, p1, q1⟩
  have P1 := hid p1
  have Q1 := hid q1
  clear p1 q1
  go_wp2_with fail
  rw [outp_int x y h1 h2]
  go_ret
  exact ⟨rfl, P1.out, Q1.out⟩
end Go.Proofs.Qxb6615739a
