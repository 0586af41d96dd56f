import Derived.Test.Qxb6002380aLen2
import Derived.Laws.BitsAll
namespace Go.Proofs.Qxb6002380a
open Go.RowKit

set_option maxRecDepth 100000 in
set_option maxHeartbeats 1000000 in
theorem dec_short (g off cap N : Nat) (w : World) (hN : N < 128) (hc : w.cell? ⟨g, off, none⟩ = some (.int .u8 (N : Int))) :
    Calls Try.prog 15 #[.slice (some ⟨g, off, none⟩) 1 cap] w fun e w' => e = .returned (.tuple #[.int .u64 N, .int .i64 1, .bool true]) ∧ w' = w := by
  go_enter Try.func15, Try.ntmps15
  go_wp2
  go_ret3
  exact ⟨rfl, rfl⟩

theorem and127 (m : Nat) (h : m ≤ 8) : bits .and .u8 (128 + (m : Int)) 127 = (m : Int) := by
  have : m = 0 ∨ m = 1 ∨ m = 2 ∨ m = 3 ∨ m = 4 ∨ m = 5 ∨ m = 6 ∨ m = 7 ∨ m = 8 := by omega
  rcases this with rfl | rfl | rfl | rfl | rfl | rfl | rfl | rfl | rfl <;> decide

set_option maxRecDepth 100000 in
set_option maxHeartbeats 1000000 in
theorem dec_long (g off cap N m : Nat) (w : World) (hN : 128 ≤ N) (hN' : N < 9223372036854775808) (hm : m = octs 8 N)
    (h0 : w.cell? ⟨g, off, none⟩ = some (.int .u8 ((128 + m : Nat) : Int)))
    (hc : ∀ i, i < m → w.cell? ⟨g, off + (1 + i), none⟩ = some (.int .u8 ((N / 256 ^ (m - 1 - i) % 256 : Nat) : Int))) :
    Calls Try.prog 15 #[.slice (some ⟨g, off, none⟩) (1 + m) cap] w fun e w' => e = .returned (.tuple #[.int .u64 N, .int .i64 (1 + m : Nat), .bool true]) ∧ w' = w := by
  have hfuel : N < 256 ^ 8 := by omega
  have hoct := octs_le 8 N
  have hm8 : m ≤ 8 := by omega
  have hst := octs_step 8 N
  have hm0 : 0 < m := by
    rcases Nat.eq_zero_or_pos m with h | h
    · have := (hst 0 hfuel).2 (by omega)
      simp at this; omega
    · exact h
  have htop : N / 256 ^ (m - 1) ≠ 0 := fun h => by have := (hst (m - 1) hfuel).1 h; omega
  have hall : N / 256 ^ m = 0 := (hst m hfuel).2 (by omega)
  have h1 := hc 0 hm0
  have h255 : N / 256 ^ (m - 1) % 256 ≠ 0 := by
    have e : N / 256 ^ m = N / 256 ^ (m - 1) / 256 := by
      rw [Nat.div_div_eq_div_mul, ← Nat.pow_succ, Nat.succ_eq_add_one, Nat.sub_add_cancel hm0]
    omega
  obtain ⟨T, hT⟩ : ∃ T, T = N / 256 ^ (m - 1) % 256 := ⟨_, rfl⟩
  have hTl : T < 256 := by omega
  rw [Nat.sub_zero, ← hT] at h1
  rw [← hT] at h255
  simp only [Nat.add_zero] at h1
  have Hc := hide hc
  have Hall := hide hall
  clear hc hst htop hall hT hfuel hm hoct
  have hand := and127 m hm8
  have hlt : 128 + m < 256 := by omega
  have hmz : ((m : Int) == 0) = false := by simp; omega
  have hm8' : ¬ (8 < (m : Int)) := by omega
  have hpick : ((m : Int) == 0 || decide (8 < (m : Int))) = false := by rw [hmz]; simp; omega
  have hTz : ((T : Int) == 0) = false := by simp; omega
  go_enter Try.func15, Try.ntmps15
  go_wp2
  go_loopw [7, 8] (fun s7 s8 wr => ∃ i : Nat, i ≤ m ∧ s7 = .int .u64 (N / 256 ^ (m - i) : Nat) ∧ s8 = .int .i64 ((i + 1 : Nat) : Int) ∧ wr = w) (fun _ s8 _ => m + 1 - (intOf s8).toNat)
  case atStart => exact ⟨0, by omega, by rw [Nat.sub_zero, Hall.out]; rfl, rfl, rfl⟩
  case round =>
    obtain ⟨i, hi, rfl, rfl, rfl⟩ := hrel
    by_cases hin : i < m
    · have hci := Hc.out i hin
      have hh := horner N m i hin
      obtain ⟨A, hA⟩ : ∃ A, A = N / 256 ^ (m - i) := ⟨_, rfl⟩
      obtain ⟨B, hB⟩ : ∃ B, B = N / 256 ^ (m - 1 - i) % 256 := ⟨_, rfl⟩
      have hlast : N / 256 ^ (m - (i + 1)) ≤ N := Nat.div_le_self _ _
      have hBl : B < 256 := by omega
      rw [← hA, ← hB] at hh
      rw [← hB] at hci
      rw [← hA]
      have hh' := hide hh
      have hAl : A * 256 + B < 9223372036854775808 := by omega
      clear hA hB hh hlast
      have e : off + (1 + i) = off + (i + 1) := by omega
      rw [e] at hci
      go_wp2
      have hor : bits .or .u64 ((A : Int) * 256) (B : Int) = ((A * 256 + B : Nat) : Int) := by
        have h := u64_or_nat (A * 256) B (by omega) (by omega)
        rw [Int.natCast_mul] at h
        rw [show (A : Int) * 256 = (A : Int) * ((256 : Nat) : Int) from rfl, h]
        have h2 := Nat.shiftLeft_add_eq_or_of_lt (i := 8) (b := B) (by omega) A
        rw [Nat.shiftLeft_eq] at h2
        rw [show A * 256 = A * 2 ^ 8 from rfl, ← h2]
      refine ⟨⟨i + 1, hin, by rw [hor, hh'.out], by go_num, trivial⟩, ?_⟩
      simp [intOf]
      omega
    · have e : i = m := by omega
      subst e
      simp only [Nat.sub_self, Nat.pow_zero, Nat.div_one]
      go_wp2
      go_ret3
      exact ⟨by go_num, rfl⟩
end Go.Proofs.Qxb6002380a
