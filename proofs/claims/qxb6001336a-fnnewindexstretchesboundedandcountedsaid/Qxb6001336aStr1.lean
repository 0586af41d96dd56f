import Derived.Test.Qxb6001336aMake
namespace Go.Proofs.Qxb6001336a
open Go.RowKit

/-! ### plain -/
theorem crowdAt_prefix (z : Nat → Int) (n sh : Nat) {k K : Nat} (h : k ≤ K) : ∃ r, crowdAt z n sh K = crowdAt z n sh k ++ r := by
  obtain ⟨m, rfl⟩ : ∃ m, K = k + m := ⟨K - k, by omega⟩
  induction m with
  | zero => exact ⟨[], by simp⟩
  | succ m ih =>
    obtain ⟨r, hr⟩ := ih (by omega)
    by_cases hc : 2 < Sc z n sh (k + m + 1) - Sc z n sh (k + m)
    · exact ⟨r ++ [k + m], by rw [← Nat.add_assoc, crowdAt_hit hc, hr, List.append_assoc]⟩
    · exact ⟨r, by rw [← Nat.add_assoc, crowdAt_miss hc, hr]⟩

theorem crowdAt_get {z : Nat → Int} {n sh k K : Nat} (h : k < K) (hc : 2 < Sc z n sh (k + 1) - Sc z n sh k) : (crowdAt z n sh K)[(crowdAt z n sh k).length]? = some k := by
  obtain ⟨r, hr⟩ := crowdAt_prefix z n sh (k := k + 1) (K := K) (by omega)
  rw [hr, crowdAt_hit hc]
  simp

theorem at_lt_Sc {z : Nat → Int} {n i : Nat} (hs : Asc z n) (hi : i < n) (sh k : Nat) : i < Sc z n sh k ↔ atOf z sh i < k := by
  unfold Sc
  rw [← cnt_iff hs _ hi, below_iff hs hi]

theorem shift_zero {split : Bool} {n T sh : Nat} (h : ∀ t, t < sh → limOf split n T ≤ T / 2 ^ t) (hs : T + 1 ≤ 4 * n) : sh = 0 := by
  rcases Nat.eq_zero_or_pos sh with h0 | h0
  · exact h0
  · have := h 0 h0
    unfold limOf at this
    rw [if_neg (by omega)] at this
    simp at this
    omega

theorem split_small {n T sh q : Nat} (h : ∀ t, t < sh → limOf true n T ≤ T / 2 ^ t) (hq : q < limOf true n T) (h0 : sh ≠ 0) : q + 1 ≤ n := by
  by_cases hs : T + 1 ≤ 4 * n
  · exact absurd (shift_zero h hs) h0
  · unfold limOf at hq
    rw [if_pos ⟨rfl, by omega⟩] at hq
    omega

/-! ### the accessors -/
set_option maxHeartbeats 400000 in
theorem acc16 {w : World} {X : Nat} {f s sh st ca cr : Value} (h : XRow w X f s sh st ca cr) : Calls Try.prog 16 #[.pointer (some ⟨X, 0, none⟩)] w fun e w' => e = .returned st ∧ w' = w := by
  have x3 : w.cell? ⟨X, 3, none⟩ = some st := h.cell 3
  go_enter Try.func16, Try.ntmps16
  go_wp2
  go_ret
  exact ⟨rfl, rfl⟩
set_option maxHeartbeats 400000 in
theorem acc17 {w : World} {X : Nat} {f s sh st ca cr : Value} (h : XRow w X f s sh st ca cr) : Calls Try.prog 17 #[.pointer (some ⟨X, 0, none⟩)] w fun e w' => e = .returned sh ∧ w' = w := by
  have x2 : w.cell? ⟨X, 2, none⟩ = some sh := h.cell 2
  go_enter Try.func17, Try.ntmps17
  go_wp2
  go_ret
  exact ⟨rfl, rfl⟩
set_option maxHeartbeats 400000 in
theorem acc18 {w : World} {X : Nat} {f s sh st ca cr : Value} (h : XRow w X f s sh st ca cr) : Calls Try.prog 18 #[.pointer (some ⟨X, 0, none⟩)] w fun e w' => e = .returned ca ∧ w' = w := by
  have x4 : w.cell? ⟨X, 4, none⟩ = some ca := h.cell 4
  go_enter Try.func18, Try.ntmps18
  go_wp2
  go_ret
  exact ⟨rfl, rfl⟩
set_option maxHeartbeats 400000 in
theorem acc19 (d : Int) (w : World) : Calls Try.prog 19 #[.agg #[.int .i32 d]] w fun e w' => e = .returned (.int .i32 d) ∧ w' = w.alloc (.cells #[.int .i32 d] 26) := by
  go_enter Try.func19, Try.ntmps19
  go_wp2
  go_ret
  exact ⟨rfl, rfl⟩
set_option maxHeartbeats 400000 in
theorem acc20 {w : World} {X : Nat} {d : Int} {s sh st ca cr : Value} (h : XRow w X (.int .i32 d) s sh st ca cr) : Calls Try.prog 20 #[.pointer (some ⟨X, 0, none⟩)] w fun e w' => e = .returned (.agg #[.int .i32 d]) ∧ w' = w.alloc (.cells #[.int .i32 d] 26) := by
  have x0 : w.cell? ⟨X, 0, none⟩ = some (.int .i32 d) := h.cell 0
  have hlt := h.lt
  go_enter Try.func20, Try.ntmps20
  go_wp2
  exact bodyPost_ret (v := .agg #[.int .i32 d]) (by simp [results, Try.results20, go_sem]) rfl ⟨rfl, rfl⟩
end Go.Proofs.Qxb6001336a
