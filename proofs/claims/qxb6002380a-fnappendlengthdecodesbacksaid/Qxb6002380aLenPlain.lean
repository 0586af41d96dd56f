/-
  THE PLAIN LAWS of DER's length octets. No Go in sight.
-/
namespace Go.Proofs.Qxb6002380a

/-- How many octets n takes (at most 'fuel'). -/
def octs : Nat → Nat → Nat
  | 0, _ => 0
  | fuel + 1, n => if n = 0 then 0 else octs fuel (n / 256) + 1

/-- The octets that appendLength adds. -/
def encLen (n : Nat) : List Nat := if n < 128 then [n] else (128 + octs 8 n) :: (List.range (octs 8 n)).map (fun i => n / 256 ^ (octs 8 n - 1 - i) % 256)

theorem octs_le (fuel n : Nat) : octs fuel n ≤ fuel := by
  induction fuel generalizing n with
  | zero => simp [octs]
  | succ f ih => unfold octs; split
                 · omega
                 · have := ih (n / 256); omega

theorem octs_lt (fuel n : Nat) (h : n < 256 ^ fuel) : n < 256 ^ octs fuel n := by
  induction fuel generalizing n with
  | zero => simpa [octs] using h
  | succ f ih =>
    unfold octs
    split
    · omega
    · have h1 : n / 256 < 256 ^ f := by
        rw [Nat.pow_succ] at h; exact Nat.div_lt_of_lt_mul (by rw [Nat.mul_comm]; exact h)
      have := ih (n / 256) h1
      rw [Nat.pow_succ]
      omega

theorem octs_ge (fuel n : Nat) (h0 : 0 < n) (hf : 0 < octs fuel n) (h : n < 256 ^ fuel) : 256 ^ (octs fuel n - 1) ≤ n := by
  induction fuel generalizing n with
  | zero => simp [octs] at hf
  | succ f ih =>
    have e : octs (f + 1) n = octs f (n / 256) + 1 := by
      show (if n = 0 then 0 else octs f (n / 256) + 1) = _
      rw [if_neg (by omega)]
    rw [e]
    have h1 : n / 256 < 256 ^ f := by
      rw [Nat.pow_succ] at h; exact Nat.div_lt_of_lt_mul (by rw [Nat.mul_comm]; exact h)
    rcases Nat.eq_zero_or_pos (octs f (n / 256)) with h2 | h2
    · rw [h2]; simp; omega
    · have hd : 0 < n / 256 := by
        rcases Nat.eq_zero_or_pos (n / 256) with h3 | h3
        · rw [h3] at h2
          have : octs f 0 = 0 := by cases f <;> simp [octs]
          omega
        · exact h3
      have := ih (n / 256) hd h2 h1
      obtain ⟨m, hm⟩ : ∃ m, octs f (n / 256) = m + 1 := ⟨octs f (n / 256) - 1, by omega⟩
      rw [hm] at this ⊢
      simp only [Nat.add_sub_cancel] at this ⊢
      rw [Nat.pow_succ]
      omega

/-- After j rounds of 'n >>= 8' what is left. -/
theorem octs_step (fuel n j : Nat) (h : n < 256 ^ fuel) : n / 256 ^ j = 0 ↔ octs fuel n ≤ j := by
  constructor
  · intro h0
    rcases Nat.lt_or_ge j (octs fuel n) with hlt | hge
    · have hn : 0 < n := by
        rcases Nat.eq_zero_or_pos n with h1 | h1
        · subst h1
          have : octs fuel 0 = 0 := by cases fuel <;> simp [octs]
          omega
        · exact h1
      have := octs_ge fuel n hn (by omega) h
      have h2 : 256 ^ j ≤ 256 ^ (octs fuel n - 1) := Nat.pow_le_pow_right (by decide) (by omega)
      have h3 : n < 256 ^ j := by
        rcases Nat.lt_or_ge n (256 ^ j) with h4 | h4
        · exact h4
        · have := Nat.div_pos h4 (Nat.pow_pos (by decide)); omega
      omega
    · exact hge
  · intro hle
    have := octs_lt fuel n h
    exact Nat.div_eq_of_lt (Nat.lt_of_lt_of_le this (Nat.pow_le_pow_right (by decide) hle))

theorem encLen_length (n : Nat) : (encLen n).length ≤ 9 := by
  unfold encLen
  split
  · simp
  · simp; exact octs_le 8 n

/-- Reading the octets back: v after i of them. -/
theorem horner (n m i : Nat) (h : i < m) : n / 256 ^ (m - i) * 256 + n / 256 ^ (m - 1 - i) % 256 = n / 256 ^ (m - (i + 1)) := by
  have e : m - i = m - 1 - i + 1 := by omega
  have e2 : m - (i + 1) = m - 1 - i := by omega
  rw [e, e2, Nat.pow_succ, ← Nat.div_div_eq_div_mul]
  omega
end Go.Proofs.Qxb6002380a
