/-
  THE PLAIN LAWS of the index: counts over strictly ascending numbers. No Go in sight.
-/
namespace Go.Proofs.Qxb6001336a

/-- How many of the first n numbers lie below t. -/
def cnt (z : Nat → Int) (t : Int) : Nat → Nat
  | 0 => 0
  | n + 1 => cnt z t n + if z n < t then 1 else 0

/-- Strictly ascending among the first n. -/
def Asc (z : Nat → Int) (n : Nat) : Prop := ∀ i j, i < j → j < n → z i < z j

theorem Asc.le {z : Nat → Int} {n : Nat} (h : Asc z n) {i j : Nat} (hij : i ≤ j) (hj : j < n) : z i ≤ z j := by
  rcases Nat.lt_or_eq_of_le hij with h1 | h1
  · exact Int.le_of_lt (h i j h1 hj)
  · rw [h1]; exact Int.le_refl _

theorem Asc.mono {z : Nat → Int} {n m : Nat} (h : Asc z n) (hm : m ≤ n) : Asc z m := fun i j hij hj => h i j hij (by omega)

theorem Asc.sub {z : Nat → Int} {n : Nat} (h : Asc z n) (lo m : Nat) (hm : lo + m ≤ n) : Asc (fun i => z (lo + i)) m :=
  fun i j hij hj => h (lo + i) (lo + j) (by omega) (by omega)

/-- From neighbours to all. -/
theorem asc_of_step {z : Nat → Int} {n : Nat} (h : ∀ i, i + 1 < n → z i < z (i + 1)) : Asc z n := by
  intro i j hij hj
  obtain ⟨k, rfl⟩ : ∃ k, j = i + 1 + k := ⟨j - (i + 1), by omega⟩
  clear hij
  induction k with
  | zero => exact h i hj
  | succ k ih => exact Int.lt_trans (ih (by omega)) (h (i + 1 + k) (by omega))

theorem cnt_le (z : Nat → Int) (t : Int) (n : Nat) : cnt z t n ≤ n := by
  induction n with
  | zero => exact Nat.le_refl _
  | succ n ih => unfold cnt; split <;> omega

theorem cnt_all {z : Nat → Int} {t : Int} {n : Nat} (h : ∀ i, i < n → z i < t) : cnt z t n = n := by
  induction n with
  | zero => rfl
  | succ n ih => unfold cnt; rw [ih (fun i hi => h i (by omega)), if_pos (h n (by omega))]

theorem cnt_none {z : Nat → Int} {t : Int} {n : Nat} (h : ∀ i, i < n → t ≤ z i) : cnt z t n = 0 := by
  induction n with
  | zero => rfl
  | succ n ih => unfold cnt; rw [ih (fun i hi => h i (by omega)), if_neg (by have := h n (by omega); omega)]

/-- The count is the place: below it all lie below t, from it on none. -/
theorem cnt_iff {z : Nat → Int} {n : Nat} (hs : Asc z n) (t : Int) {i : Nat} (hi : i < n) : z i < t ↔ i < cnt z t n := by
  induction n with
  | zero => omega
  | succ n ih =>
    have hs' : Asc z n := hs.mono (by omega)
    unfold cnt
    by_cases hz : z n < t
    · have : cnt z t n = n := cnt_all (fun j hj => Int.lt_trans (hs j n hj (by omega)) hz)
      rw [this, if_pos hz]
      constructor
      · intro; omega
      · intro
        rcases Nat.lt_or_ge i n with h1 | h1
        · exact Int.lt_trans (hs i n h1 (by omega)) hz
        · have : i = n := by omega
          rw [this]; exact hz
    · rw [if_neg hz]
      rcases Nat.lt_or_ge i n with h1 | h1
      · simpa using ih hs' h1
      · have e : i = n := by omega
        have := cnt_le z t n
        rw [e]
        constructor
        · intro h; exact absurd h hz
        · intro h; omega

theorem cnt_unique {z : Nat → Int} {n c : Nat} {t : Int} (hs : Asc z n) (hc : c ≤ n) (h1 : ∀ i, i < c → z i < t) (h2 : ∀ i, c ≤ i → i < n → t ≤ z i) : cnt z t n = c := by
  have hl := cnt_le z t n
  rcases Nat.lt_trichotomy (cnt z t n) c with h | h | h
  · have a := h1 _ h
    have b := (cnt_iff hs t (i := cnt z t n) (by omega)).1 a
    omega
  · exact h
  · have a := (cnt_iff hs t (i := c) (by omega)).2 h
    have b := h2 c (Nat.le_refl _) (by omega)
    omega

theorem cnt_mono (z : Nat → Int) (n : Nat) {s t : Int} (h : s ≤ t) : cnt z s n ≤ cnt z t n := by
  induction n with
  | zero => exact Nat.le_refl _
  | succ n ih => unfold cnt; split <;> split <;> omega

/-- At the i-th itself. -/
theorem cnt_at {z : Nat → Int} {n i : Nat} (hs : Asc z n) (hi : i < n) : cnt z (z i) n = i :=
  cnt_unique hs (by omega) (fun j hj => hs j i hj hi) (fun j hj hjn => hs.le hj hjn)

/-- A day behind it. -/
theorem cnt_next {z : Nat → Int} {n i : Nat} (hs : Asc z n) (hi : i < n) : cnt z (z i + 1) n = i + 1 :=
  cnt_unique hs (by omega) (fun j hj => by have := hs.le (i := j) (j := i) (by omega) hi; omega) (fun j hj hjn => by have := hs i j (by omega) hjn; omega)

/-- The count in a stretch alone. -/
theorem cnt_sub {z : Nat → Int} {n lo hi : Nat} {t : Int} (hs : Asc z n) (h1 : lo ≤ cnt z t n) (h2 : cnt z t n ≤ hi) (h3 : hi ≤ n) :
    lo + cnt (fun i => z (lo + i)) t (hi - lo) = cnt z t n := by
  have e : cnt (fun i => z (lo + i)) t (hi - lo) = cnt z t n - lo := by
    refine cnt_unique (hs.sub lo (hi - lo) (by omega)) (by omega) (fun i hi' => ?_) (fun i hi' hn => ?_)
    · exact (cnt_iff hs t (i := lo + i) (by omega)).2 (by omega)
    · have := (cnt_iff hs t (i := lo + i) (by omega))
      omega
  omega

/-- Which stretch a day falls into. -/
theorem stretch {d f : Int} {sh s : Nat} (hs : (d - f) / 2 ^ sh = (s : Int)) : f + s * 2 ^ sh ≤ d ∧ d < f + (s + 1 : Nat) * 2 ^ sh := by
  have hp : (0 : Int) < 2 ^ sh := Int.pow_pos (by decide)
  have h1 := Int.ediv_mul_le (d - f) (Int.ne_of_gt hp)
  have h2 := Int.lt_ediv_add_one_mul_self (d - f) hp
  rw [hs] at h1 h2
  have e : ((s + 1 : Nat) : Int) = (s : Int) + 1 := by omega
  rw [e]
  constructor <;> omega

theorem mul_pow_mono {a b : Nat} (h : a ≤ b) (sh : Nat) : (a : Int) * 2 ^ sh ≤ (b : Int) * 2 ^ sh :=
  Int.mul_le_mul_of_nonneg_right (by omega) (Int.le_of_lt (Int.pow_pos (by decide)))

/-- The stretch of the j-th session. -/
def atOf (z : Nat → Int) (sh j : Nat) : Nat := ((z j - z 0) / 2 ^ sh).toNat
/-- The first stretch that has no count yet when the first j sessions have been gone through. -/
def kOf (z : Nat → Int) (sh : Nat) : Nat → Nat
  | 0 => 1
  | j + 1 => atOf z sh j + 1
/-- How many sessions come before the i-th stretch. -/
def Sc (z : Nat → Int) (n sh i : Nat) : Nat := cnt z (z 0 + i * 2 ^ sh) n

theorem atOf_cast {z : Nat → Int} {n j : Nat} (hs : Asc z n) (hj : j < n) (sh : Nat) : (z j - z 0) / 2 ^ sh = (atOf z sh j : Int) := by
  have h0 := hs.le (i := 0) (j := j) (by omega) hj
  have hp : (0 : Int) < 2 ^ sh := Int.pow_pos (by decide)
  have := Int.ediv_nonneg (a := z j - z 0) (b := 2 ^ sh) (by omega) (by omega)
  unfold atOf; omega

theorem atOf_zero (z : Nat → Int) (sh : Nat) : atOf z sh 0 = 0 := by unfold atOf; simp

theorem atOf_mono {z : Nat → Int} {n i j : Nat} (hs : Asc z n) (hij : i ≤ j) (hj : j < n) (sh : Nat) : atOf z sh i ≤ atOf z sh j := by
  have h := hs.le hij hj
  have hp : (0 : Int) < 2 ^ sh := Int.pow_pos (by decide)
  have := Int.ediv_le_ediv hp (a := z i - z 0) (b := z j - z 0) (by omega)
  unfold atOf; omega

theorem kOf_le {z : Nat → Int} {n j : Nat} (hs : Asc z n) (hj : j < n) (sh : Nat) : kOf z sh j ≤ atOf z sh j + 1 := by
  cases j with
  | zero => simp [kOf]
  | succ j => have := atOf_mono hs (i := j) (j := j + 1) (by omega) hj sh; simp only [kOf]; omega

theorem Sc_zero (z : Nat → Int) {n : Nat} (hs : Asc z n) (sh : Nat) : Sc z n sh 0 = 0 := by
  unfold Sc
  exact cnt_none (fun i hi => by have := hs.le (i := 0) (j := i) (by omega) hi; simp; omega)

theorem Sc_le (z : Nat → Int) (n sh i : Nat) : Sc z n sh i ≤ n := cnt_le _ _ _

/-- Below the i-th stretch's first day lie the sessions whose stretch is an earlier one. -/
theorem below_iff {z : Nat → Int} {n j : Nat} (hs : Asc z n) (hj : j < n) (sh i : Nat) : z j < z 0 + i * 2 ^ sh ↔ atOf z sh j < i := by
  have e := atOf_cast hs hj sh
  obtain ⟨h1, h2⟩ := stretch e
  constructor
  · intro h
    rcases Nat.lt_or_ge (atOf z sh j) i with h3 | h3
    · exact h3
    · have := mul_pow_mono h3 sh; omega
  · intro h
    have := mul_pow_mono (a := atOf z sh j + 1) (b := i) h sh
    omega

theorem Sc_between {z : Nat → Int} {n j i : Nat} (hs : Asc z n) (hj : j < n) (sh : Nat) (h1 : kOf z sh j ≤ i) (h2 : i ≤ atOf z sh j) : Sc z n sh i = j := by
  unfold Sc
  refine cnt_unique hs (by omega) (fun t ht => ?_) (fun t ht htn => ?_)
  · rw [below_iff hs (by omega)]
    cases j with
    | zero => omega
    | succ j =>
      simp only [kOf] at h1
      have := atOf_mono hs (i := t) (j := j) (by omega) (by omega) sh
      omega
  · have := (below_iff hs htn sh i)
    have := atOf_mono hs ht htn sh
    omega

theorem Sc_last {z : Nat → Int} {n i : Nat} (hs : Asc z n) (sh : Nat) (h : ∀ j, j < n → atOf z sh j < i) : Sc z n sh i = n := by
  unfold Sc
  exact cnt_all (fun j hj => by rw [below_iff hs hj]; exact h j hj)

end Go.Proofs.Qxb6001336a
