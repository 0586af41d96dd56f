import Derived.Test.Qxb6002380aWadd
namespace Go.Proofs.Qxb6002380a
open Go.RowKit

set_option maxRecDepth 100000 in
set_option maxHeartbeats 4000000 in
/-- FnWordAddIsModularSum. -/
theorem law7 (p x y : Nat) (hp : p < 18446744073709551616) (w : World) :
    Calls Try.prog 7 #[.int .u64 p, .int .u64 x, .int .u64 y] w fun e w' => e = .returned (.bool true) ∧ Below w.heap.size w w' := by
  by_cases h0 : p % 2 = 0
  · have hand : bits .and .u64 ((p : Nat) : Int) 1 = 0 := by rw [and_one_u64 _ (by omega) (by omega)]; omega
    go_enter Try.func7, Try.ntmps7
    go_wp2
    go_ret
    exact ⟨rfl, Below.refl _ _⟩
  · have hand : bits .and .u64 ((p : Nat) : Int) 1 = 1 := by rw [and_one_u64 _ (by omega) (by omega)]; omega
    have Hodd : Hid (p % 2 = 1) := hide (by omega)
    clear h0
    by_cases hxp : p ≤ x
    · have hxp' : (p : Int) ≤ (x : Int) := by omega
      go_enter Try.func7, Try.ntmps7
      go_wp2
      go_ret
      exact ⟨rfl, Below.refl _ _⟩
    · have hxp' : ¬ (p : Int) ≤ (x : Int) := by omega
      by_cases hyp : p ≤ y
      · have hyp' : (p : Int) ≤ (y : Int) := by omega
        go_enter Try.func7, Try.ntmps7
        go_wp2
        go_ret
        exact ⟨rfl, Below.refl _ _⟩
      · have hyp' : ¬ (p : Int) ≤ (y : Int) := by omega
        have hx1 : x < p := by omega
        have hy1 : y < p := by omega
        have w1 := wadd21 p x y hp Hodd.out hx1 hy1 w
        have w2 := fun w => wadd21 p y x hp Hodd.out hy1 hx1 w
        have w3 := fun w => mod22 p x y hp hx1 hy1 w
        have hs := addm_lt hx1 hy1
        rw [addm_comm p y x] at w2
        obtain ⟨s, hse⟩ : ∃ s, s = addm p x y := ⟨_, rfl⟩
        rw [← hse] at w1 w2 w3 hs
        have hs' : ¬ ((p : Int) ≤ (s : Int)) := by omega
        clear hse hxp hyp
        have HW1 := hide w1
        have HW2 := hide w2
        have HW3 := hide w3
        clear w1 w2 w3
        go_enter Try.func7, Try.ntmps7
        go_wp2_with fail
        refine HW1.out.mono ?_
        rintro e v1 ⟨rfl, hb1⟩
        have HB1 := hide hb1
        clear hb1
        go_wp2_with fail
        refine (HW3.out v1).mono ?_
        rintro e v2 ⟨rfl, hv2⟩
        have hv2 := hv2.symm
        subst hv2
        go_wp2_with fail
        refine (HW2.out v1).mono ?_
        rintro e v3 ⟨rfl, hb3⟩
        have HB3 := hide hb3
        clear hb3
        go_wp2
        go_ret
        exact ⟨rfl, HB1.out.trans (HB3.out.mono HB1.out.size)⟩
end Go.Proofs.Qxb6002380a
