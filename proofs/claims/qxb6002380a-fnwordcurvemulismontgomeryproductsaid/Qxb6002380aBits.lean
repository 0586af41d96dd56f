import Derived.Test.Qxb6002380aKit
import Derived.Shelf.Spec.BitsCarry
import Derived.Lib.Mul64
import Derived.Laws.Bits64b
import Derived.Shelf.Bits.Mul64
namespace Go.Proofs.Qxb6002380a
open Go.RowKit

/-- math/bits.Add64 at this program. -/
theorem add64 (x y c : Int) (hx : 0 ≤ x) (hy : 0 ≤ y) (hx' : x < 18446744073709551616) (hy' : y < 18446744073709551616) (hc0 : 0 ≤ c) (hc : c ≤ 1) (w : World) :
    (callFunc 61 #[.int .u64 x, .int .u64 y, .int .u64 c]).run Try.prog w =
      .ok (.value (.tuple #[.int .u64 ((x + y + c) % 18446744073709551616), .int .u64 ((x + y + c) / 18446744073709551616)])) w := by
  obtain ⟨x, rfl⟩ := Int.eq_ofNat_of_zero_le hx
  obtain ⟨y, rfl⟩ := Int.eq_ofNat_of_zero_le hy
  obtain ⟨c, rfl⟩ := Int.eq_ofNat_of_zero_le hc0
  rw [run_callFunc_extern Try.func61 (by kernel_rfl) (by kernel_rfl) (by kernel_rfl) (e := add64Entry) (by kernel_rfl), run_add64 x y c (by omega) (by omega) (by omega) (by omega)]
  simp only [Result.andThen]

/-- The borrow, under a name. -/
def bor (x y b : Nat) : Nat := if x < y + b then 1 else 0

/-- math/bits.Sub64 at this program. -/
theorem sub64 (x y b : Nat) (hb : b ≤ 1) (w : World) :
    (callFunc 63 #[.int .u64 x, .int .u64 y, .int .u64 b]).run Try.prog w =
      .ok (.value (.tuple #[.int .u64 (((x + 18446744073709551616 - y - b) % 18446744073709551616 : Nat) : Int), .int .u64 ((bor x y b : Nat) : Int)])) w := by
  rw [run_callFunc_extern Try.func63 (by kernel_rfl) (by kernel_rfl) (by kernel_rfl) (e := sub64Entry) (by kernel_rfl), run_sub64 x y b hb]
  rfl

set_option maxHeartbeats 1000000 in
/-- math/bits.Add. -/
theorem bitsAdd (x y c : Nat) (hx : x < 18446744073709551616) (hy : y < 18446744073709551616) (hc : c ≤ 1) (w : World) :
    Calls Try.prog 52 #[.int .u64 x, .int .u64 y, .int .u64 c] w fun e w' => e = .returned (.tuple #[.int .u64 (((x + y + c) % 18446744073709551616 : Nat) : Int), .int .u64 (((x + y + c) / 18446744073709551616 : Nat) : Int)]) ∧ w' = w := by
  have h := fun w => add64 x y c (by omega) (by omega) (by omega) (by omega) (by omega) (by omega) w
  go_enter Try.func52, Try.ntmps52
  go_wp2_with (simp only [h])
  go_ret2
  exact ⟨by congr 5, rfl⟩

set_option maxHeartbeats 1000000 in
/-- math/bits.Sub. -/
theorem bitsSub (x y b : Nat) (hb : b ≤ 1) (w : World) :
    Calls Try.prog 53 #[.int .u64 x, .int .u64 y, .int .u64 b] w fun e w' => e = .returned (.tuple #[.int .u64 (((x + 18446744073709551616 - y - b) % 18446744073709551616 : Nat) : Int), .int .u64 ((bor x y b : Nat) : Int)]) ∧ w' = w := by
  have h := fun w => sub64 x y b hb w
  generalize (x + 18446744073709551616 - y - b) % 18446744073709551616 = s at *
  generalize bor x y b = o at *
  go_enter Try.func53, Try.ntmps53
  go_wp2_with (simp only [h])
  go_ret2
  exact ⟨rfl, rfl⟩

set_option maxHeartbeats 1000000 in
theorem bitsMul64 (x y : Nat) (hx : x < 18446744073709551616) (hy : y < 18446744073709551616) (w : World) :
    Calls Try.prog 66 #[.int .u64 x, .int .u64 y] w fun e w' => e = .returned (.tuple #[.int .u64 ((x * y / 18446744073709551616 : Nat) : Int), .int .u64 ((x * y % 18446744073709551616 : Nat) : Int)]) ∧ w' = w := by
  obtain ⟨bd, bt, bw, hhi⟩ := Lib.mul64_hi x y hx hy
  have ba := Lib.half_mul_le (a := x / 4294967296) (b := y / 4294967296) (by omega) (by omega)
  have bb := Lib.half_mul_le (a := x / 4294967296) (b := y % 4294967296) (by omega) (by omega)
  have bc := Lib.half_mul_le (a := x % 4294967296) (b := y / 4294967296) (by omega) (by omega)
  have ba' : x / 4294967296 * (y / 4294967296) < 18446744073709551616 := by omega
  have bb' : x / 4294967296 * (y % 4294967296) < 18446744073709551616 := by omega
  have bc' : x % 4294967296 * (y / 4294967296) < 18446744073709551616 := by omega
  have bh1 : x / 4294967296 * (y / 4294967296) + (x / 4294967296 * (y % 4294967296) + x % 4294967296 * (y % 4294967296) / 4294967296) / 4294967296 < 18446744073709551616 := by omega
  have bh : x / 4294967296 * (y / 4294967296) + (x / 4294967296 * (y % 4294967296) + x % 4294967296 * (y % 4294967296) / 4294967296) / 4294967296 + ((x / 4294967296 * (y % 4294967296) + x % 4294967296 * (y % 4294967296) / 4294967296) % 4294967296 + x % 4294967296 * (y / 4294967296)) / 4294967296 < 18446744073709551616 := by omega
  go_enter Try.func66, Try.ntmps66
  go_wp2
  simp only [Mul64.maskN x hx, Mul64.maskN y hy, Mul64.divN, Mul64.mulN, Mul64.addN, Mul64.wrapN _ bd, Mul64.wrapN _ bb', Mul64.wrapN _ bt, Mul64.maskN _ bt, Mul64.wrapN _ bc', Mul64.wrapN _ bw, Mul64.wrapN _ ba', Mul64.wrapN _ bh1, Mul64.wrapN _ bh, Mul64.wrapM (x * y)]
  rw [hhi]
  go_ret2
  exact ⟨rfl, rfl⟩

set_option maxHeartbeats 1000000 in
/-- math/bits.Mul. -/
theorem bitsMul (x y : Nat) (hx : x < 18446744073709551616) (hy : y < 18446744073709551616) (w : World) :
    Calls Try.prog 55 #[.int .u64 x, .int .u64 y] w fun e w' => e = .returned (.tuple #[.int .u64 ((x * y / 18446744073709551616 : Nat) : Int), .int .u64 ((x * y % 18446744073709551616 : Nat) : Int)]) ∧ w' = w := by
  have c64 := fun w => bitsMul64 x y hx hy w
  generalize x * y / 18446744073709551616 = s at *
  generalize x * y % 18446744073709551616 = o at *
  go_enter Try.func55, Try.ntmps55
  go_wp2_with (go_at_call 66; refine (c64 _).mono ?_; rintro e w' ⟨rfl, hw⟩; rw [hw])
  go_ret2
  exact ⟨rfl, rfl⟩
end Go.Proofs.Qxb6002380a
