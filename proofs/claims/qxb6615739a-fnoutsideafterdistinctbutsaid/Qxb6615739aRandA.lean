/- Walks over math/bits.Mul64, Add64 and the PCG source, at this seat's dump. -/
import Derived.Test.Qxb6615739aProg
import Derived.WalkKit
import Derived.WalkSpells
import Derived.Lib.Mul64
import Derived.Laws.Bits64b
import Derived.Laws.Externs
import Derived.Deep.QuietTactic
import Derived.BigQuiet
import Derived.Below
import Derived.Outline
namespace Go.Proofs.Qxb6615739a
open Go.RowKit

namespace Mul64
theorem maskN (a : Nat) (ha : a < 18446744073709551616) : bits .and .u64 (a : Int) 4294967295 = ((a % 4294967296 : Nat) : Int) := by
  have h := bits_and_u64_nat a 4294967295 ha (by omega)
  have e : a &&& 4294967295 = a % 4294967296 := Nat.and_two_pow_sub_one_eq_mod a 32
  rw [e] at h
  exact h
theorem divN (a : Nat) : (a : Int) / 4294967296 = ((a / 4294967296 : Nat) : Int) := by omega
theorem mulN (a b : Nat) : (a : Int) * (b : Int) = ((a * b : Nat) : Int) := (Int.natCast_mul a b).symm
theorem addN (a b : Nat) : (a : Int) + (b : Int) = ((a + b : Nat) : Int) := (Int.natCast_add a b).symm
theorem wrapN (a : Nat) (ha : a < 18446744073709551616) : IntKind.u64.wrap (a : Int) = (a : Int) := by rw [IntKind.wrap_u64]; omega
theorem wrapM (a : Nat) : IntKind.u64.wrap (a : Int) = ((a % 18446744073709551616 : Nat) : Int) := by rw [IntKind.wrap_u64]; omega
end Mul64

set_option maxHeartbeats 1000000 in
theorem mul64 (x y : Nat) (hx : x < 18446744073709551616) (hy : y < 18446744073709551616) (w : World) :
    Calls Try.prog 43 #[.int .u64 x, .int .u64 y] w fun e w' => e = .returned (.tuple #[.int .u64 ((x * y / 18446744073709551616 : Nat) : Int), .int .u64 ((x * y % 18446744073709551616 : Nat) : Int)]) ∧ w' = w := by
  obtain ⟨bd, bt, bw, hhi⟩ := Lib.mul64_hi x y hx hy
  have ba := Lib.half_mul_le (a := x / 4294967296) (b := y / 4294967296) (by omega) (by omega)
  have bb := Lib.half_mul_le (a := x / 4294967296) (b := y % 4294967296) (by omega) (by omega)
  have bc := Lib.half_mul_le (a := x % 4294967296) (b := y / 4294967296) (by omega) (by omega)
  have ba' : x / 4294967296 * (y / 4294967296) < 18446744073709551616 := by omega
  have bb' : x / 4294967296 * (y % 4294967296) < 18446744073709551616 := by omega
  have bc' : x % 4294967296 * (y / 4294967296) < 18446744073709551616 := by omega
  have bh1 : x / 4294967296 * (y / 4294967296) + (x / 4294967296 * (y % 4294967296) + x % 4294967296 * (y % 4294967296) / 4294967296) / 4294967296 < 18446744073709551616 := by omega
  have bh : x / 4294967296 * (y / 4294967296) + (x / 4294967296 * (y % 4294967296) + x % 4294967296 * (y % 4294967296) / 4294967296) / 4294967296 + ((x / 4294967296 * (y % 4294967296) + x % 4294967296 * (y % 4294967296) / 4294967296) % 4294967296 + x % 4294967296 * (y / 4294967296)) / 4294967296 < 18446744073709551616 := by omega
  go_enter Try.func43, Try.ntmps43
  go_wp2
  simp only [Mul64.maskN x hx, Mul64.maskN y hy, Mul64.divN, Mul64.mulN, Mul64.addN, Mul64.wrapN _ bd, Mul64.wrapN _ bb', Mul64.wrapN _ bt, Mul64.maskN _ bt, Mul64.wrapN _ bc', Mul64.wrapN _ bw, Mul64.wrapN _ ba', Mul64.wrapN _ bh1, Mul64.wrapN _ bh, Mul64.wrapM (x * y)]
  rw [hhi]
  go_ret2
  exact ⟨rfl, rfl⟩

theorem add64 (x y c : Nat) (hc : c ≤ 1) (w : World) :
    (callFunc 97 #[.int .u64 x, .int .u64 y, .int .u64 c]).run Try.prog w =
      .ok (.value (.tuple #[.int .u64 (((x + y + c) % 18446744073709551616 : Nat) : Int), .int .u64 (((x + y + c) / 18446744073709551616 : Nat) : Int)])) w := by
  rw [run_callFunc_extern Try.func97 (by kernel_rfl) (by kernel_rfl) (by kernel_rfl) (e := add64Entry) (by kernel_rfl), run_add64 x y c (by omega) (by omega) (by omega) (by omega)]
  simp only [Result.andThen]
  congr 5 <;> omega
end Go.Proofs.Qxb6615739a
