import Derived.Test.Qxb6002380aCurve
import Derived.Laws.BitsAll
namespace Go.Proofs.Qxb6002380a
open Go.RowKit

theorem val_lt_top {a b : Nat → Nat} {k : Nat} (ha : ∀ i, a i < W) (hk : a k < b k) : ∀ {n : Nat}, k < n → (∀ i, k < i → i < n → a i = b i) → val a n < val b n
  | 0, h, _ => by omega
  | n + 1, h, he => by
    rw [val, val]
    by_cases e : n = k
    · subst e
      have h1 : val a n < W ^ n := val_lt fun i _ => ha i
      have h2 : (a n + 1) * W ^ n ≤ b n * W ^ n := Nat.mul_le_mul_right _ hk
      rw [Nat.add_mul] at h2
      omega
    · have ih := val_lt_top ha hk (n := n) (by omega) (fun i h1 h2 => he i h1 (by omega))
      rw [he n (by omega) (by omega)]
      omega

theorem val_decide {a b : Nat → Nat} {k n : Nat} (ha : ∀ i, a i < W) (hb : ∀ i, b i < W) (hk : k < n) (hne : a k ≠ b k) (he : ∀ i, k < i → i < n → a i = b i) : decide (val a n < val b n) = decide (a k < b k) := by
  rw [decide_eq_decide]
  constructor
  · intro h
    rcases Nat.lt_or_ge (a k) (b k) with h1 | h1
    · exact h1
    · have := val_lt_top hb (show b k < a k by omega) hk (fun i h2 h3 => (he i h2 h3).symm)
      omega
  · intro h; exact val_lt_top ha h hk he

/-- n words that can be read from ⟨b, o⟩ on. -/
def Sl (w : World) (b o n : Nat) (z : Nat → Nat) : Prop := ∀ i, i < n → w.cell? ⟨b, o + i, none⟩ = some (.int .u64 (z i : Nat))

theorem Sl.below {w w' : World} {b o n : Nat} {z : Nat → Nat} (h : Sl w b o n z) (hb : Below w.heap.size w w') : Sl w' b o n z := fun i hi => Below.some hb (h i hi)
theorem Sl.le {w : World} {b o n m : Nat} {z : Nat → Nat} (h : Sl w b o n z) (hm : m ≤ n) : Sl w b o m z := fun i hi => h i (by omega)

set_option maxRecDepth 100000 in
set_option maxHeartbeats 1000000 in
/-- zzLess. -/
theorem less23 (ab ao bb bo n ca cb : Nat) (a b : Nat → Nat) (w : World) (hn : n ≤ 4096) (ha : ∀ i, a i < W) (hb : ∀ i, b i < W) (hac : Sl w ab ao n a) (hbc : Sl w bb bo n b) :
    Calls Try.prog 23 #[.slice (some ⟨ab, ao, none⟩) n ca, .slice (some ⟨bb, bo, none⟩) n cb] w fun e w' => e = .returned (.bool (decide (val a n < val b n))) ∧ ∃ m, w' = w.drewN m := by
  have Ha := hide ha
  have Hb := hide hb
  have Hac := hide hac
  have Hbc := hide hbc
  clear ha hb hac hbc
  go_enter Try.func23, Try.ntmps23
  go_wp2
  go_loopw [5] (fun s5 wr => ∃ k m : Nat, k ≤ n ∧ s5 = .int .i64 ((k : Int) - 1) ∧ (∀ i, k ≤ i → i < n → a i = b i) ∧ wr = w.drewN m) (fun s5 _ => (intOf s5 + 1).toNat)
  case atStart => exact ⟨n, 0, by omega, by go_num, fun i h1 h2 => by omega, rfl⟩
  case round =>
    obtain ⟨k, m, hk, rfl, he, hw⟩ := hrel
    have He := hide he
    clear he
    subst hw
    cases k with
    | zero =>
      have e0 : ((0 : Nat) : Int) - 1 = -1 := by omega
      rw [e0]
      have Hv : Hid (val a n = val b n) := hide (val_congr fun i hi => He.out i (by omega) hi)
      go_wp2
      go_ret
      exact ⟨by rw [Hv.out]; simp, _, rfl⟩
    | succ j =>
      have e0 : ((j + 1 : Nat) : Int) - 1 = (j : Int) := by omega
      rw [e0]
      have i1 : (j : Int) < (n : Int) := by omega
      have i2 : (0 : Int) ≤ (j : Int) := by omega
      have c1 := Hac.out j (by omega)
      have c2 := Hbc.out j (by omega)
      by_cases hj : a j = b j
      · have hj' : ((a j : Int) != (b j : Int)) = false := by rw [hj]; simp
        have Hj := hide hj
        clear hj
        go_wp2
        go_quiet (fail)
        go_wp2
        go_roundw
        case rel =>
          refine ⟨j, _, by omega, by go_num, fun i h1 h2 => ?_, rfl⟩
          by_cases e : i = j
          · rw [e]; exact Hj.out
          · exact He.out i (by omega) h2
        case measure => simp [intOf]
      · have hj' : ((a j : Int) != (b j : Int)) = true := by rw [bne_iff_ne]; omega
        have Hv := hide (val_decide Ha.out Hb.out (show j < n by omega) hj (fun i h1 h2 => He.out i (by omega) h2))
        clear hj
        go_wp2
        go_quiet (fail)
        go_wp2
        go_quiet (fail)
        go_wp2
        go_ret
        refine ⟨?_, ?_⟩
        · rw [Hv.out]
          simp
        · simp only [World.drewN_drewN]
          exact ⟨_, rfl⟩

set_option maxRecDepth 100000 in
/-- zzWord. -/
theorem word56 (b o n cap i : Nat) (z : Nat → Nat) (w : World) (hc : Sl w b o n z) :
    Calls Try.prog 56 #[.slice (some ⟨b, o, none⟩) n cap, .int .i64 (i : Int)] w fun e w' => e = .returned (.int .u64 (pad z n i : Nat)) ∧ w' = w := by
  by_cases h : i < n
  · have i1 : ¬ ((n : Int) ≤ (i : Int)) := by omega
    have i2 : ¬ ((i : Int) < 0) := by omega
    have i3 : (i : Int) < (n : Int) := by omega
    have c := hc i h
    have Hp : Hid (pad z n i = z i) := hide (by simp [pad, h])
    clear hc
    go_enter Try.func56, Try.ntmps56
    go_wp2
    go_ret
    exact ⟨by rw [Hp.out]; rfl, rfl⟩
  · have i1 : (n : Int) ≤ (i : Int) := by omega
    have i2 : ¬ ((i : Int) < 0) := by omega
    have Hp : Hid (pad z n i = 0) := hide (by simp [pad, h])
    clear hc
    go_enter Try.func56, Try.ntmps56
    go_wp2
    go_ret
    exact ⟨by rw [Hp.out]; rfl, rfl⟩

set_option maxHeartbeats 1000000 in
set_option maxRecDepth 100000 in
/-- zzMul64. -/
theorem mul42 (x y : Nat) (hx : x < 18446744073709551616) (hy : y < 18446744073709551616) (w : World) :
    Calls Try.prog 42 #[.int .u64 x, .int .u64 y] w fun e w' => e = .returned (.tuple #[.int .u64 ((x * y / 18446744073709551616 : Nat) : Int), .int .u64 ((x * y % 18446744073709551616 : Nat) : Int)]) ∧ w' = w := by
  obtain ⟨bd, bt, bw, hhi⟩ := Lib.mul64_hi x y hx hy
  have ba := Lib.half_mul_le (a := x / 4294967296) (b := y / 4294967296) (by omega) (by omega)
  have bb := Lib.half_mul_le (a := x / 4294967296) (b := y % 4294967296) (by omega) (by omega)
  have bc := Lib.half_mul_le (a := x % 4294967296) (b := y / 4294967296) (by omega) (by omega)
  have ba' : x / 4294967296 * (y / 4294967296) < 18446744073709551616 := by omega
  have bb' : x / 4294967296 * (y % 4294967296) < 18446744073709551616 := by omega
  have bc' : x % 4294967296 * (y / 4294967296) < 18446744073709551616 := by omega
  have bh1 : x / 4294967296 * (y / 4294967296) + (x / 4294967296 * (y % 4294967296) + x % 4294967296 * (y % 4294967296) / 4294967296) / 4294967296 < 18446744073709551616 := by omega
  have bh : x / 4294967296 * (y / 4294967296) + (x / 4294967296 * (y % 4294967296) + x % 4294967296 * (y % 4294967296) / 4294967296) / 4294967296 + ((x / 4294967296 * (y % 4294967296) + x % 4294967296 * (y % 4294967296) / 4294967296) % 4294967296 + x % 4294967296 * (y / 4294967296)) / 4294967296 < 18446744073709551616 := by omega
  have bw' : x % 4294967296 * (y / 4294967296) + (x / 4294967296 * (y % 4294967296) + x % 4294967296 * (y % 4294967296) / 4294967296) % 4294967296 < 18446744073709551616 := by rw [Nat.add_comm]; exact bw
  have bh' : x / 4294967296 * (y / 4294967296) + (x / 4294967296 * (y % 4294967296) + x % 4294967296 * (y % 4294967296) / 4294967296) / 4294967296 + (x % 4294967296 * (y / 4294967296) + (x / 4294967296 * (y % 4294967296) + x % 4294967296 * (y % 4294967296) / 4294967296) % 4294967296) / 4294967296 < 18446744073709551616 := by rw [Nat.add_comm (x % 4294967296 * (y / 4294967296))]; exact bh
  go_enter Try.func42, Try.ntmps42
  go_wp2
  simp only [Mul64.maskN x hx, Mul64.maskN y hy, Mul64.divN, Mul64.mulN, Mul64.addN, Mul64.wrapN _ bd, Mul64.wrapN _ bb', Mul64.wrapN _ bt, Mul64.maskN _ bt, Mul64.wrapN _ bc', Mul64.wrapN _ bw', Mul64.wrapN _ ba', Mul64.wrapN _ bh1, Mul64.wrapN _ bh', Mul64.wrapM (x * y)]
  rw [Nat.add_comm (x % 4294967296 * (y / 4294967296)), hhi]
  go_ret2
  exact ⟨rfl, rfl⟩
end Go.Proofs.Qxb6002380a
