/-
  THE PLAIN LAWS of xorShifted: words, bits. No Go in sight.
-/
namespace Go.Proofs.Qxb6002380a

/-- What xorShifted makes of the words z: bit i of t is added at i + s. -/
def xs (z : Nat → Nat) (t : Nat) (s : Int) (i : Nat) : Nat :=
  if s < 0 then (if i = 0 then z 0 ^^^ t / 2 ^ (-s).toNat else z i)
  else if i = s.toNat / 64 then z i ^^^ t * 2 ^ (s.toNat % 64) % 2 ^ 64
  else if i = s.toNat / 64 + 1 then z i ^^^ t / 2 ^ (64 - s.toNat % 64)
  else z i

/-- The words z, bits i + s flipped for the bits i < m of t. -/
def flips (z : Nat → Nat) (t : Nat) (s : Int) : Nat → Nat → Nat
  | 0, p => z p
  | m + 1, p => if t.testBit m = true ∧ ((m : Int) + s) / 64 = (p : Int) then flips z t s m p ^^^ 2 ^ (((m : Int) + s) % 64).toNat else flips z t s m p

theorem xs_xs (z : Nat → Nat) (t : Nat) (s : Int) (i : Nat) : xs (xs z t s) t s i = z i := by
  have e : ∀ a b : Nat, a ^^^ b ^^^ b = a := fun a b => by rw [Nat.xor_assoc, Nat.xor_self, Nat.xor_zero]
  unfold xs
  by_cases h : s < 0
  · simp only [h, if_true]
    by_cases hi : i = 0
    · subst hi; simp [e]
    · simp [hi]
  · simp only [h, if_false]
    by_cases h1 : i = s.toNat / 64
    · simp [h1, e]
    · by_cases h2 : i = s.toNat / 64 + 1
      · simp [h2, e]
      · simp [h1, h2]

/-- All set bits of t land within n words. -/
def Fit (t : Nat) (s : Int) (n : Nat) : Prop := ∀ i : Nat, i < 64 → t.testBit i = true → 0 ≤ (i : Int) + s ∧ (i : Int) + s < 64 * (n : Int)

/-- Bit b of word p, after m rounds. -/
theorem flips_bit (z : Nat → Nat) (t : Nat) (s : Int) (m p b : Nat) (hb : b < 64) :
    (flips z t s m p).testBit b = ((z p).testBit b ^^ (decide (0 ≤ 64 * (p : Int) + b - s ∧ 64 * (p : Int) + b - s < m) && t.testBit (64 * (p : Int) + b - s).toNat)) := by
  induction m with
  | zero =>
    have : ¬ (0 ≤ 64 * (p : Int) + b - s ∧ 64 * (p : Int) + b - s < ((0 : Nat) : Int)) := by omega
    simp only [flips, this, decide_false, Bool.false_and, Bool.xor_false]
  | succ m ih =>
    have hpos : ((m : Int) + s) % 64 = (((m : Int) + s) % 64).toNat := by omega
    by_cases ht : t.testBit m = true ∧ ((m : Int) + s) / 64 = (p : Int)
    · simp only [flips, ht, and_self, if_true, Nat.testBit_xor, ih, Nat.testBit_two_pow]
      by_cases hbb : (((m : Int) + s) % 64).toNat = b
      · have e1 : 64 * (p : Int) + b - s = m := by omega
        rw [e1]
        have e2 : (0 : Int) ≤ (m : Int) ∧ (m : Int) < ((m + 1 : Nat) : Int) := by omega
        have e3 : ¬ ((0 : Int) ≤ (m : Int) ∧ (m : Int) < (m : Int)) := by omega
        rw [decide_eq_true e2, decide_eq_false e3]
        simp [hbb, ht.1]
      · have e1 : 64 * (p : Int) + b - s ≠ m := by omega
        have e2 : (0 ≤ 64 * (p : Int) + b - s ∧ 64 * (p : Int) + b - s < ((m + 1 : Nat) : Int)) ↔ (0 ≤ 64 * (p : Int) + b - s ∧ 64 * (p : Int) + b - s < (m : Int)) := by omega
        simp only [hbb, decide_false, Bool.xor_false, e2]
    · simp only [flips, ht, if_false, ih]
      by_cases e1 : 64 * (p : Int) + b - s = m
      · have hd : ((m : Int) + s) / 64 = (p : Int) := by omega
        have htm : t.testBit m = false := by
          cases h : t.testBit m
          · rfl
          · exact absurd ⟨h, hd⟩ ht
        rw [e1]
        simp [htm]
      · have e2 : (0 ≤ 64 * (p : Int) + b - s ∧ 64 * (p : Int) + b - s < ((m + 1 : Nat) : Int)) ↔ (0 ≤ 64 * (p : Int) + b - s ∧ 64 * (p : Int) + b - s < (m : Int)) := by omega
        simp only [e2]

theorem flips_lt {z : Nat → Nat} {t : Nat} {s : Int} {p : Nat} (hz : z p < 2 ^ 64) (m : Nat) : flips z t s m p < 2 ^ 64 := by
  induction m with
  | zero => exact hz
  | succ m ih =>
    simp only [flips]
    split
    · exact Nat.xor_lt_two_pow ih (Nat.pow_lt_pow_right (by decide) (by omega))
    · exact ih

theorem testBit_out {t i : Nat} (ht : t < 2 ^ 64) (hi : 64 ≤ i) : t.testBit i = false :=
  Nat.testBit_lt_two_pow (Nat.lt_of_lt_of_le ht (Nat.pow_le_pow_right (by decide) hi))

theorem xs_lt {z : Nat → Nat} {t : Nat} {s : Int} {i : Nat} (hz : z i < 2 ^ 64) (ht : t < 2 ^ 64) : xs z t s i < 2 ^ 64 := by
  unfold xs
  split
  · split
    · rename_i h; subst h; exact Nat.xor_lt_two_pow hz (Nat.lt_of_le_of_lt (Nat.div_le_self _ _) ht)
    · exact hz
  · split
    · exact Nat.xor_lt_two_pow hz (Nat.mod_lt _ (by decide))
    · split
      · exact Nat.xor_lt_two_pow hz (Nat.lt_of_le_of_lt (Nat.div_le_self _ _) ht)
      · exact hz

/-- THE LAW: xorShifted flips exactly the bits i + s. -/
theorem xs_flips {z : Nat → Nat} {t : Nat} {s : Int} {n p : Nat} (hs : -63 ≤ s) (ht : t < 2 ^ 64) (hfit : Fit t s n) (hz : z p < 2 ^ 64) : xs z t s p = flips z t s 64 p := by
  apply Nat.eq_of_testBit_eq
  intro b
  by_cases hb : b < 64
  · rw [flips_bit z t s 64 p b hb]
    -- a set bit that falls below zero there is none
    have hneg : ∀ i : Nat, (i : Int) + s < 0 → t.testBit i = false := fun i h => by
      by_cases hi : i < 64
      · cases h' : t.testBit i
        · rfl
        · have := hfit i hi h'; omega
      · exact testBit_out ht (by omega)
    have hout : ∀ i : Int, 64 ≤ i → t.testBit i.toNat = false := fun i h => testBit_out ht (by omega)
    unfold xs
    by_cases h : s < 0
    · simp only [h, if_true]
      by_cases hp : p = 0
      · subst hp
        simp only [if_true, Nat.testBit_xor, Nat.testBit_div_two_pow]
        congr 1
        have e1 : (64 * ((0 : Nat) : Int) + b - s).toNat = b + (-s).toNat := by omega
        rw [e1]
        by_cases h64 : 64 * ((0 : Nat) : Int) + (b : Int) - s < ((64 : Nat) : Int)
        · have : (0 ≤ 64 * ((0 : Nat) : Int) + (b : Int) - s ∧ 64 * ((0 : Nat) : Int) + (b : Int) - s < ((64 : Nat) : Int)) := by omega
          simp only [this, and_self, decide_true, Bool.true_and]
        · have : t.testBit (b + (-s).toNat) = false := testBit_out ht (by omega)
          simp [this]
      · simp only [hp, if_false]
        have : ¬ (0 ≤ 64 * (p : Int) + (b : Int) - s ∧ 64 * (p : Int) + (b : Int) - s < ((64 : Nat) : Int)) := by omega
        simp only [this, decide_false, Bool.false_and, Bool.xor_false]
    · simp only [h, if_false]
      by_cases h1 : p = s.toNat / 64
      · simp only [h1, if_true, Nat.testBit_xor, Nat.testBit_mod_two_pow, Nat.testBit_mul_two_pow, hb, decide_true, Bool.true_and]
        congr 1
        by_cases hrb : s.toNat % 64 ≤ b
        · have e1 : (64 * ((s.toNat / 64 : Nat) : Int) + (b : Int) - s).toNat = b - s.toNat % 64 := by omega
          have : (0 ≤ 64 * ((s.toNat / 64 : Nat) : Int) + (b : Int) - s ∧ 64 * ((s.toNat / 64 : Nat) : Int) + (b : Int) - s < ((64 : Nat) : Int)) := by omega
          simp only [this, and_self, decide_true, Bool.true_and, e1]
          simp [hrb]
        · have : ¬ (0 ≤ 64 * ((s.toNat / 64 : Nat) : Int) + (b : Int) - s ∧ 64 * ((s.toNat / 64 : Nat) : Int) + (b : Int) - s < ((64 : Nat) : Int)) := by omega
          simp only [this, decide_false, Bool.false_and]
          simp [hrb]
      · simp only [h1, if_false]
        by_cases h2 : p = s.toNat / 64 + 1
        · simp only [h2, if_true, Nat.testBit_xor, Nat.testBit_div_two_pow]
          congr 1
          have e1 : (64 * ((s.toNat / 64 + 1 : Nat) : Int) + (b : Int) - s).toNat = b + (64 - s.toNat % 64) := by omega
          rw [e1]
          by_cases h64 : 64 * ((s.toNat / 64 + 1 : Nat) : Int) + (b : Int) - s < ((64 : Nat) : Int)
          · have : (0 ≤ 64 * ((s.toNat / 64 + 1 : Nat) : Int) + (b : Int) - s ∧ 64 * ((s.toNat / 64 + 1 : Nat) : Int) + (b : Int) - s < ((64 : Nat) : Int)) := by omega
            simp only [this, and_self, decide_true, Bool.true_and]
          · have : t.testBit (b + (64 - s.toNat % 64)) = false := testBit_out ht (by omega)
            simp [this]
        · simp only [h2, if_false]
          have : ¬ (0 ≤ 64 * (p : Int) + (b : Int) - s ∧ 64 * (p : Int) + (b : Int) - s < ((64 : Nat) : Int)) := by omega
          simp only [this, decide_false, Bool.false_and, Bool.xor_false]
  · rw [testBit_out (xs_lt hz ht) (by omega), testBit_out (flips_lt hz 64) (by omega)]

/-- Where the high part is not nothing there is a word for it. -/
theorem fit_high {t : Nat} {s : Int} {n : Nat} (hs : 0 ≤ s) (ht : t < 2 ^ 64) (hfit : Fit t s n) (h : t / 2 ^ (64 - s.toNat % 64) ≠ 0) : s.toNat / 64 + 1 < n := by
  obtain ⟨b, hb⟩ := Nat.exists_testBit_of_ne_zero h
  rw [Nat.testBit_div_two_pow] at hb
  by_cases hi : b + (64 - s.toNat % 64) < 64
  · have := hfit _ hi hb
    omega
  · rw [testBit_out ht (by omega)] at hb; cases hb
end Go.Proofs.Qxb6002380a
