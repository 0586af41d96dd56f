import Derived.Test.Qxb6002380aRows
import Derived.WalkKit
import Derived.RowKit3
namespace Go.Proofs.Qxb6002380a
open Go.RowKit

/-- RFC 5480's strength of an order of x bits. -/
def sbits (x : Int) : Int := if 512 ≤ x then 256 else if 384 ≤ x then 192 else if 256 ≤ x then 128 else if 224 ≤ x then 112 else if 160 ≤ x then 80 else 0

theorem sbits_cases (x : Int) : (512 ≤ x ∧ sbits x = 256) ∨ (384 ≤ x ∧ x < 512 ∧ sbits x = 192) ∨ (256 ≤ x ∧ x < 384 ∧ sbits x = 128) ∨ (224 ≤ x ∧ x < 256 ∧ sbits x = 112) ∨ (160 ≤ x ∧ x < 224 ∧ sbits x = 80) ∨ (x < 160 ∧ sbits x = 0) := by
  unfold sbits
  by_cases h1 : 512 ≤ x
  · simp [h1]
  by_cases h2 : 384 ≤ x
  · simp [h1, h2]; omega
  by_cases h3 : 256 ≤ x
  · simp [h1, h2, h3]; omega
  by_cases h4 : 224 ≤ x
  · simp [h1, h2, h3, h4]; omega
  by_cases h5 : 160 ≤ x
  · simp [h1, h2, h3, h4, h5]; omega
  · simp [h1, h2, h3, h4, h5]; omega

theorem sbits_mono {x y : Int} (h : x ≤ y) : sbits x ≤ sbits y := by
  rcases sbits_cases x with h1 | h1 | h1 | h1 | h1 | h1 <;> rcases sbits_cases y with h2 | h2 | h2 | h2 | h2 | h2 <;> omega

theorem strength_any (x : Int) (w : World) : Calls Try.prog 19 #[.int .i64 x] w fun e w' => e = .returned (.int .i64 (sbits x)) ∧ w' = w := by
  rcases sbits_cases x with ⟨h1, h⟩ | ⟨h1, h2, h⟩ | ⟨h1, h2, h⟩ | ⟨h1, h2, h⟩ | ⟨h1, h2, h⟩ | ⟨h1, h⟩ <;> rw [h] <;> clear h
  all_goals
    go_enter Try.func19, Try.ntmps19
    go_wp2
    go_ret
    exact ⟨rfl, rfl⟩

theorem ok_any (x : Int) (hx : -9223372036854775808 ≤ x) (hx' : x ≤ 9223372036854775807) (w : World) : Calls Try.prog 20 #[.int .i64 x, .int .i64 (sbits x)] w fun e w' => e = .returned (.bool true) ∧ w' = w := by
  rcases sbits_cases x with ⟨h1, h⟩ | ⟨h1, h2, h⟩ | ⟨h1, h2, h⟩ | ⟨h1, h2, h⟩ | ⟨h1, h2, h⟩ | ⟨h1, h⟩ <;> rw [h] <;> clear h
  all_goals
    go_enter Try.func20, Try.ntmps20
    go_wp2
    go_ret
    exact ⟨rfl, rfl⟩

theorem law6 (x y : Int) (hx : -9223372036854775808 ≤ x) (hx' : x ≤ 9223372036854775807) (hy : -9223372036854775808 ≤ y) (hy' : y ≤ 9223372036854775807) (w : World) :
    Calls Try.prog 6 #[.int .i64 x, .int .i64 y] w fun e w' => e = .returned (.bool true) ∧ w' = w := by
  by_cases h : y < x
  · have hm := sbits_mono (Int.le_of_lt h)
    go_enter Try.func6, Try.ntmps6
    go_wp2_with fail
    refine (strength_any _ _).mono ?_
    rintro e w' ⟨rfl, hw⟩
    subst hw
    go_wp2_with fail
    refine (strength_any _ _).mono ?_
    rintro e w' ⟨rfl, hw⟩
    subst hw
    go_wp2_with fail
    refine (ok_any _ hy hy' _).mono ?_
    rintro e w' ⟨rfl, hw⟩
    subst hw
    go_wp2_with fail
    refine (ok_any _ hx hx' _).mono ?_
    rintro e w' ⟨rfl, hw⟩
    subst hw
    go_wp2
    go_ret
    exact ⟨rfl, rfl⟩
  · have hm := sbits_mono (x := x) (y := y) (by omega)
    go_enter Try.func6, Try.ntmps6
    go_wp2_with fail
    refine (strength_any _ _).mono ?_
    rintro e w' ⟨rfl, hw⟩
    subst hw
    go_wp2_with fail
    refine (strength_any _ _).mono ?_
    rintro e w' ⟨rfl, hw⟩
    subst hw
    go_wp2_with fail
    refine (ok_any _ hx hx' _).mono ?_
    rintro e w' ⟨rfl, hw⟩
    subst hw
    go_wp2_with fail
    refine (ok_any _ hy hy' _).mono ?_
    rintro e w' ⟨rfl, hw⟩
    subst hw
    go_wp2
    go_ret
    exact ⟨rfl, rfl⟩
end Go.Proofs.Qxb6002380a
