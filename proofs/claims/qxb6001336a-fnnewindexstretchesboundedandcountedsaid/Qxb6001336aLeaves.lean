import Derived.Test.Qxb6001336aRows
import Derived.Test.Qxb6001336aPlain
import Derived.WalkKit
import Derived.Below
import Derived.Deep.QuietTactic
import Derived.BigQuiet
namespace Go.Proofs.Qxb6001336a
open Go.RowKit

/-- A slice of n one-cell integers, told by a function of the place. -/
def Row (k : IntKind) (w : World) (a : Option Addr) (n : Nat) (z : Nat → Int) : Prop :=
  n = 0 ∨ ∃ b off, a = some ⟨b, off, none⟩ ∧ b < w.heap.size ∧ ∀ i, i < n → w.cell? ⟨b, off + i, none⟩ = some (.int k (z i))

/-- What the laws ask of the days. -/
def Good (z : Nat → Int) (n : Nat) : Prop := Asc z n ∧ ∀ i, i < n → -268435456 ≤ z i ∧ z i ≤ 268435456

theorem Row.below {k : IntKind} {w w' : World} {a : Option Addr} {n : Nat} {z : Nat → Int} (h : Row k w a n z) (hb : Below w.heap.size w w') : Row k w' a n z := by
  rcases h with h | ⟨b, off, rfl, hlt, hc⟩
  · exact Or.inl h
  · exact Or.inr ⟨b, off, rfl, Nat.lt_of_lt_of_le hlt hb.size, fun i hi => (hb.cell (p := ⟨b, off + i, none⟩) hlt).trans (hc i hi)⟩

set_option maxHeartbeats 400000 in
theorem sub_any (a b : Int) (w : World) (ha : -300000000 ≤ a) (ha' : a ≤ 300000000) (hb : -300000000 ≤ b) (hb' : b ≤ 300000000) :
    Calls Try.prog 24 #[.agg #[.int .i32 a], .agg #[.int .i32 b]] w fun e w' => e = .returned (.int .i64 (a - b)) ∧ w' = (w.alloc (.cells #[.int .i32 a] 26)).alloc (.cells #[.int .i32 b] 26) := by
  go_enter Try.func24, Try.ntmps24
  go_wp2
  go_ret
  exact ⟨rfl, rfl⟩

set_option maxHeartbeats 400000 in
theorem before_date (a b : Int) (w : World) :
    Calls Try.prog 25 #[.agg #[.int .i32 a], .agg #[.int .i32 b]] w fun e w' => e = .returned (.bool (decide (a < b))) ∧ w' = (w.alloc (.cells #[.int .i32 a] 26)).alloc (.cells #[.int .i32 b] 26) := by
  go_enter Try.func25, Try.ntmps25
  go_wp2
  go_ret
  exact ⟨rfl, rfl⟩

set_option maxHeartbeats 400000 in
theorem fromdays_any (a : Int) (w : World) :
    Calls Try.prog 11 #[.int .i32 a] w fun e w' => e = .returned (.agg #[.int .i32 a]) ∧ w' = w.alloc (.cells #[.int .i32 a] 26) := by
  go_enter Try.func11, Try.ntmps11
  go_wp2
  exact bodyPost_ret (v := .agg #[.int .i32 a]) (by simp [results, Try.results11, go_sem]) rfl ⟨rfl, rfl⟩

set_option maxHeartbeats 400000 in
theorem bytes6 (a : Option Addr) (n cap : Nat) (s : Bool) (d : Int) (w : World) (hn : n ≤ maxLen) :
    Calls Try.prog 6 #[.slice a n cap, .bool s, .int .i32 d] w fun e w' => e = .returned (.bool (decide (n ≤ 1048576))) ∧ w' = w := by
  unfold maxLen at hn
  by_cases h : n ≤ 1048576
  · go_enter Try.func6, Try.ntmps6
    go_wp2
    go_ret
    exact ⟨by simp [h], rfl⟩
  · go_enter Try.func6, Try.ntmps6
    go_wp2
    go_ret
    exact ⟨by simp [h], rfl⟩

set_option maxHeartbeats 400000 in
theorem bytes13 (a : Option Addr) (n cap : Nat) (s : Bool) (d : Int) (w : World) (hn : n ≤ maxLen) :
    Calls Try.prog 13 #[.slice a n cap, .bool s, .int .i32 d] w fun e w' => e = .returned (.bool (decide (n ≤ 1048576))) ∧ w' = w := by
  unfold maxLen at hn
  by_cases h : n ≤ 1048576
  · go_enter Try.func13, Try.ntmps13
    go_wp2
    go_ret
    exact ⟨by simp [h], rfl⟩
  · go_enter Try.func13, Try.ntmps13
    go_wp2
    go_ret
    exact ⟨by simp [h], rfl⟩

set_option maxHeartbeats 400000 in
theorem bytes15 (a : Option Addr) (n cap : Nat) (s : Bool) (w : World) (hn : n ≤ maxLen) :
    Calls Try.prog 15 #[.slice a n cap, .bool s] w fun e w' => e = .returned (.bool (decide (n ≤ 1048576))) ∧ w' = w := by
  unfold maxLen at hn
  by_cases h : n ≤ 1048576
  · go_enter Try.func15, Try.ntmps15
    go_wp2
    go_ret
    exact ⟨by simp [h], rfl⟩
  · go_enter Try.func15, Try.ntmps15
    go_wp2
    go_ret
    exact ⟨by simp [h], rfl⟩

set_option maxHeartbeats 400000 in
theorem count_any (a : Option Addr) (n cap : Nat) (z : Nat → Int) (d : Int) (w : World) (hr : Row .i32 w a n z) (hn : n ≤ 65536) :
    Calls Try.prog 12 #[.slice a n cap, .int .i32 d] w fun e w' => e = .returned (.int .i64 (cnt z d n)) ∧ w' = w := by
  rcases hr with rfl | ⟨b, off, rfl, hlt, hc⟩
  · go_enter Try.func12, Try.ntmps12
    go_wp2
    go_loop [5, 6] (fun t i => i = .int .i64 0 ∧ t = .int .i64 0) (fun _ _ => 0)
    case atStart => exact ⟨rfl, rfl⟩
    case round =>
      obtain ⟨rfl, rfl⟩ := hrel
      go_wp2
      go_ret
      exact ⟨rfl, rfl⟩
  · go_enter Try.func12, Try.ntmps12
    go_wp2
    go_loop [5, 6] (fun t i => ∃ k : Nat, k ≤ n ∧ i = .int .i64 k ∧ t = .int .i64 (cnt z d k)) (fun _ i => n - (intOf i).toNat)
    case atStart => exact ⟨0, Nat.zero_le _, rfl, rfl⟩
    case round =>
      obtain ⟨k, hk, rfl, rfl⟩ := hrel
      have hl := cnt_le z d k
      by_cases hkn : k < n
      · have hck := hc k hkn
        have HS : Hid (cnt z d (k + 1) = cnt z d k + if z k < d then 1 else 0) := rfl
        by_cases hz : z k < d
        · go_wp2
          go_round
          case rel => exact ⟨k + 1, by omega, by go_num, by rw [HS.out, if_pos hz]; go_num⟩
          case measure => simp [intOf]; omega
        · go_wp2
          go_round
          case rel => exact ⟨k + 1, by omega, by go_num, by rw [HS.out, if_neg hz]; go_num⟩
          case measure => simp [intOf]; omega
      · go_wp2
        go_ret
        have : k = n := by omega
        subst this
        exact ⟨rfl, rfl⟩
end Go.Proofs.Qxb6001336a
