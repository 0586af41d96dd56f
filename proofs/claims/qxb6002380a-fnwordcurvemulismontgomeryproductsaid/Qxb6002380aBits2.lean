import Derived.Test.Qxb6002380aBits
import Derived.Test.Qxb6002380aMont
namespace Go.Proofs.Qxb6002380a
open Go.RowKit

/-- bits.Mul: the two words of the product. -/
theorem mulW (x y : Nat) (hx : x < W) (hy : y < W) (w : World) :
    Calls Try.prog 55 #[.int .u64 x, .int .u64 y] w fun e w' => ∃ hi lo : Nat, e = .returned (.tuple #[.int .u64 hi, .int .u64 lo]) ∧ w' = w ∧ x * y = hi * W + lo ∧ hi < W ∧ lo < W := by
  refine (bitsMul x y hx hy w).mono ?_
  rintro e w' ⟨rfl, hw⟩
  refine ⟨_, _, rfl, hw, ?_, ?_, ?_⟩
  · generalize x * y = q; unfold W; omega
  · have hb : x * y ≤ 18446744073709551615 * 18446744073709551615 := Nat.mul_le_mul (by unfold W at *; omega) (by unfold W at *; omega)
    generalize x * y = q at *; unfold W; omega
  · generalize x * y = q; unfold W; omega

/-- bits.Add with a carry. -/
theorem addW (x y c : Nat) (hx : x < W) (hy : y < W) (hc : c ≤ 1) (w : World) :
    Calls Try.prog 52 #[.int .u64 x, .int .u64 y, .int .u64 c] w fun e w' => ∃ s o : Nat, e = .returned (.tuple #[.int .u64 s, .int .u64 o]) ∧ w' = w ∧ x + y + c = o * W + s ∧ s < W ∧ o ≤ 1 := by
  refine (bitsAdd x y c hx hy hc w).mono ?_
  rintro e w' ⟨rfl, hw⟩
  refine ⟨_, _, rfl, hw, ?_, ?_, ?_⟩ <;> (unfold W at *; omega)

/-- bits.Add with no carry. -/
theorem addW0 (x y : Nat) (hx : x < W) (hy : y < W) (w : World) :
    Calls Try.prog 52 #[.int .u64 x, .int .u64 y, .int .u64 0] w fun e w' => ∃ s o : Nat, e = .returned (.tuple #[.int .u64 s, .int .u64 o]) ∧ w' = w ∧ x + y = o * W + s ∧ s < W ∧ o ≤ 1 := by
  exact addW x y 0 hx hy (by omega) w

/-- bits.Sub with a borrow. -/
theorem subW (x y b : Nat) (hx : x < W) (hy : y < W) (hb : b ≤ 1) (w : World) :
    Calls Try.prog 53 #[.int .u64 x, .int .u64 y, .int .u64 b] w fun e w' => ∃ d o : Nat, e = .returned (.tuple #[.int .u64 d, .int .u64 o]) ∧ w' = w ∧ d + y + b = x + o * W ∧ d < W ∧ o ≤ 1 := by
  refine (bitsSub x y b hb w).mono ?_
  rintro e w' ⟨rfl, hw⟩
  unfold bor
  refine ⟨_, _, rfl, hw, ?_, ?_, ?_⟩
  · unfold W at *; split <;> omega
  · unfold W at *; omega
  · split <;> omega

/-- bits.Sub of nothing but the borrow. -/
theorem subW0 (x b : Nat) (hx : x < W) (hb : b ≤ 1) (w : World) :
    Calls Try.prog 53 #[.int .u64 x, .int .u64 0, .int .u64 b] w fun e w' => ∃ d o : Nat, e = .returned (.tuple #[.int .u64 d, .int .u64 o]) ∧ w' = w ∧ ((o = 0 ∧ b ≤ x) ∨ (o = 1 ∧ x < b)) := by
  refine (subW x 0 b hx W_pos hb w).mono ?_
  rintro e w' ⟨d, o, rfl, hw, h1, h2, h3⟩
  refine ⟨_, _, rfl, hw, ?_⟩
  unfold W at *
  omega
end Go.Proofs.Qxb6002380a
