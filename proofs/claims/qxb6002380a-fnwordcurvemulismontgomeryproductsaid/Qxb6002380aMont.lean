namespace Go.Proofs.Qxb6002380a

/-- A word's own count. -/
def W : Nat := 18446744073709551616

/-- The number that the first n words of f make, the least first. -/
def val (f : Nat → Nat) : Nat → Nat
  | 0 => 0
  | n + 1 => val f n + f n * W ^ n

/-- f with the word at j set to v. -/
def up (f : Nat → Nat) (j v : Nat) : Nat → Nat := fun k => if k = j then v else f k

theorem W_pos : 0 < W := by unfold W; omega
theorem Wp_pos (n : Nat) : 0 < W ^ n := Nat.pow_pos W_pos

theorem val_congr {f g : Nat → Nat} : ∀ {n : Nat}, (∀ i, i < n → f i = g i) → val f n = val g n
  | 0, _ => rfl
  | n + 1, h => by rw [val, val, val_congr (fun i hi => h i (by omega)), h n (by omega)]

theorem val_lt {f : Nat → Nat} : ∀ {n : Nat}, (∀ i, i < n → f i < W) → val f n < W ^ n
  | 0, _ => by simp [val]
  | n + 1, h => by
    have h1 := val_lt (n := n) (fun i hi => h i (by omega))
    have h2 := h n (by omega)
    have h3 : (f n + 1) * W ^ n ≤ W * W ^ n := Nat.mul_le_mul_right _ h2
    rw [val, Nat.pow_succ, Nat.mul_comm (W ^ n) W]
    rw [Nat.add_mul] at h3
    omega

theorem val_zero {f : Nat → Nat} : ∀ {n : Nat}, (∀ i, i < n → f i = 0) → val f n = 0
  | 0, _ => rfl
  | n + 1, h => by rw [val, val_zero (fun i hi => h i (by omega)), h n (by omega)]; simp

theorem val_up_ge {f : Nat → Nat} {j v n : Nat} (h : n ≤ j) : val (up f j v) n = val f n :=
  val_congr fun i hi => by unfold up; rw [if_neg (by omega)]

theorem up_same (f : Nat → Nat) (j v : Nat) : up f j v j = v := by simp [up]
theorem up_ne (f : Nat → Nat) {j v k : Nat} (h : k ≠ j) : up f j v k = f k := by simp [up, h]

theorem up_lt {f : Nat → Nat} {j v b : Nat} (hf : ∀ k, f k < b) (hv : v < b) : ∀ k, up f j v k < b := by
  intro k; unfold up; split
  · exact hv
  · exact hf k

/-- One multiply and add: no word of it wraps. -/
theorem mac {x y t c hi lo c1 s1 c2 s2 : Nat} (hx : x < W) (hy : y < W) (ht : t < W) (hc : c < W)
    (h1 : x * y = hi * W + lo) (h2 : lo + t = c1 * W + s1) (h3 : s1 + c = c2 * W + s2) :
    hi + c1 < W ∧ hi + c1 + c2 < W ∧ s2 + (hi + c1 + c2) * W = x * y + t + c := by
  have hb : x * y ≤ 18446744073709551615 * 18446744073709551615 := Nat.mul_le_mul (by unfold W at *; omega) (by unfold W at *; omega)
  generalize x * y = q at *
  unfold W at *
  omega

/-- Loop 2: yi times the first j words of x has been added. -/
def L2 (t x : Nat → Nat) (yi j : Nat) (u : Nat → Nat) (c : Nat) : Prop :=
  val u j + c * W ^ j = val t j + yi * val x j ∧ (∀ k, j ≤ k → u k = t k) ∧ (∀ k, u k < W) ∧ c < W

theorem L2.start {t x : Nat → Nat} {yi : Nat} (ht : ∀ k, t k < W) : L2 t x yi 0 t 0 :=
  ⟨by simp [val], fun _ _ => rfl, ht, W_pos⟩

theorem L2.step {t x u : Nat → Nat} {yi j c s c' : Nat} (h : L2 t x yi j u c) (hs : s < W) (hc' : c' < W)
    (he : s + c' * W = x j * yi + u j + c) : L2 t x yi (j + 1) (up u j s) c' := by
  obtain ⟨h1, h2, h3, h4⟩ := h
  refine ⟨?_, fun k hk => ?_, up_lt h3 hs, hc'⟩
  · rw [val, val_up_ge (Nat.le_refl j), up_same, val, val, Nat.pow_succ]
    rw [h2 j (Nat.le_refl j)] at he
    generalize W ^ j = V at *
    have e2 : (s + c' * W) * V = (x j * yi + t j + c) * V := by rw [he]
    grind
  · rw [up_ne _ (by omega), h2 k (by omega)]

/-- Loop 3: m times the first i + 1 words of p has been added, and the lowest word dropped. -/
def L3 (t p : Nat → Nat) (m i : Nat) (u : Nat → Nat) (c : Nat) : Prop :=
  W * val u i + c * W ^ (i + 1) = val t (i + 1) + m * val p (i + 1) ∧ (∀ k, i ≤ k → u k = t k) ∧ (∀ k, u k < W) ∧ c < W

theorem L3.start {t p : Nat → Nat} {m c : Nat} (ht : ∀ k, t k < W) (hc : c < W) (he : c * W = m * p 0 + t 0) : L3 t p m 0 t c := by
  refine ⟨?_, fun _ _ => rfl, ht, hc⟩
  simp [val]
  omega

theorem L3.step {t p u : Nat → Nat} {m i c s c' : Nat} (h : L3 t p m i u c) (hs : s < W) (hc' : c' < W)
    (he : s + c' * W = m * p (i + 1) + u (i + 1) + c) : L3 t p m (i + 1) (up u i s) c' := by
  obtain ⟨h1, h2, h3, h4⟩ := h
  refine ⟨?_, fun k hk => ?_, up_lt h3 hs, hc'⟩
  · rw [val, val_up_ge (Nat.le_refl i), up_same, val.eq_2 t (i + 1), val.eq_2 p (i + 1)]
    rw [h2 (i + 1) (by omega)] at he
    generalize val t (i + 1) = A at *
    generalize val p (i + 1) = B at *
    have p1 : W ^ (i + 1) = W ^ i * W := Nat.pow_succ _ _
    have p2 : W ^ (i + 1 + 1) = W ^ i * W * W := by rw [Nat.pow_succ, Nat.pow_succ]
    rw [p1] at h1 ⊢
    rw [p2]
    generalize W ^ i = V at *
    have e2 : (s + c' * W) * (V * W) = (m * p (i + 1) + t (i + 1) + c) * (V * W) := by rw [he]
    grind
  · rw [up_ne _ (by omega), h2 k (by omega)]

/-- The words written last in a round. -/
theorem round {t x u p v : Nat → Nat} {n yi m c2 c3 top ov s c4 : Nat} (h2 : L2 t x yi (n + 1) u c2) (ht : top + ov * W = t (n + 1) + c2)
    (h3 : L3 u p m n v c3) (hs : s + c4 * W = top + c3) :
    W * val (up (up v n s) (n + 1) (ov + c4)) (n + 2) = val t (n + 2) + yi * val x (n + 1) + m * val p (n + 1) := by
  have a1 := h2.1
  have a3 := h3.1
  rw [val, val_up_ge (Nat.le_refl _), up_same, val, val_up_ge (Nat.le_refl _), up_same, val.eq_2 t (n + 1)]
  generalize val t (n + 1) = A at *
  generalize val p (n + 1) = B at *
  generalize val x (n + 1) = C at *
  generalize val u (n + 1) = D at *
  have p1 : W ^ (n + 1) = W ^ n * W := Nat.pow_succ _ _
  rw [p1] at a1 a3 ⊢
  generalize W ^ n = V at *
  have e1 : (top + ov * W) * (V * W) = (t (n + 1) + c2) * (V * W) := by rw [ht]
  have e2 : (s + c4 * W) * (V * W) = (top + c3) * (V * W) := by rw [hs]
  grind

/-- The outer loop: i words of y have been taken. -/
def LO (X : Nat) (y : Nat → Nat) (P : Nat) (i T : Nat) : Prop :=
  ∃ q, T * W ^ i = X * val y i + q * P ∧ q < W ^ i

theorem LO.start {X P : Nat} {y : Nat → Nat} : LO X y P 0 0 := ⟨0, by simp [val], by simp⟩

theorem LO.step {X P i T T' m : Nat} {y : Nat → Nat} (h : LO X y P i T) (hm : m < W) (he : W * T' = T + y i * X + m * P) : LO X y P (i + 1) T' := by
  obtain ⟨q, h1, h2⟩ := h
  refine ⟨q + m * W ^ i, ?_, ?_⟩
  · rw [val, Nat.pow_succ]
    generalize W ^ i = V at *
    have e1 : W * T' * V = (T + y i * X + m * P) * V := by rw [he]
    grind
  · have h3 : (m + 1) * W ^ i ≤ W * W ^ i := Nat.mul_le_mul_right _ hm
    rw [Nat.pow_succ, Nat.mul_comm (W ^ i) W]
    rw [Nat.add_mul] at h3
    omega

theorem LO.last {X P n T : Nat} {y : Nat → Nat} (h : LO X y P n T) (hlt : X * val y n < P * W ^ n) :
    T < 2 * P ∧ (T * W ^ n) % P = (X * val y n) % P := by
  obtain ⟨q, h1, h2⟩ := h
  refine ⟨?_, ?_⟩
  · have h3 : q * P ≤ W ^ n * P := Nat.mul_le_mul_right _ (Nat.le_of_lt h2)
    have h4 : T * W ^ n < (2 * P) * W ^ n := by rw [h1, Nat.two_mul, Nat.add_mul]; rw [Nat.mul_comm (W ^ n)] at h3; omega
    exact Nat.lt_of_mul_lt_mul_right h4
  · rw [h1, Nat.add_mul_mod_self_right]

/-- Loop 4: p's first j words are taken from t's. -/
def L4 (t p : Nat → Nat) (j : Nat) (r : Nat → Nat) (b : Nat) : Prop :=
  val r j + val p j = val t j + b * W ^ j ∧ (∀ k, j ≤ k → r k = 0) ∧ (∀ k, r k < W) ∧ b ≤ 1

theorem L4.start {t p : Nat → Nat} : L4 t p 0 (fun _ => 0) 0 := ⟨by simp [val], fun _ _ => rfl, fun _ => W_pos, by omega⟩

theorem L4.step {t p r : Nat → Nat} {j b d b' : Nat} (h : L4 t p j r b) (hd : d < W) (hb' : b' ≤ 1) (he : d + p j + b = t j + b' * W) :
    L4 t p (j + 1) (up r j d) b' := by
  obtain ⟨h1, h2, h3, h4⟩ := h
  refine ⟨?_, fun k hk => ?_, up_lt h3 hd, hb'⟩
  · rw [val, val_up_ge (Nat.le_refl j), up_same, val, val, Nat.pow_succ]
    generalize W ^ j = V at *
    have e2 : (d + p j + b) * V = (t j + b' * W) * V := by rw [he]
    grind
  · rw [up_ne _ (by omega), h2 k (by omega)]

/-- What mul answers: words past n zero, below P, and times R the product mod P. -/
def MulOK (n X Y P : Nat) (r : Nat → Nat) : Prop :=
  (∀ k, r k < W) ∧ (∀ k, n ≤ k → r k = 0) ∧ val r n < P ∧ (val r n * W ^ n) % P = (X * Y) % P

theorem L4.keep {t p r : Nat → Nat} {n X b P : Nat} {y : Nat → Nat} (h : L4 t p n r b) (ho : LO X y P n (val t (n + 1))) (hP : P = val p n) (hp : ∀ k, p k < W)
    (hlt : X * val y n < P * W ^ n) (hb : b ≤ t n) : MulOK n X (val y n) P r := by
  obtain ⟨h1, h2, h3, h4⟩ := h
  obtain ⟨o1, o2⟩ := ho.last hlt
  have hPR : P < W ^ n := by rw [hP]; exact val_lt fun i _ => hp i
  have hr : val r n < W ^ n := val_lt fun i _ => h3 i
  rw [val] at o1 o2
  rw [← hP] at h1
  have hT : val t n + t n * W ^ n = val r n + P := by
    by_cases hq : t n = b
    · rw [hq]; omega
    · exfalso
      have h5 : (b + 1) * W ^ n ≤ t n * W ^ n := Nat.mul_le_mul_right _ (by omega)
      rw [Nat.add_mul] at h5
      omega
  refine ⟨h3, h2, by omega, ?_⟩
  rw [← o2, hT, Nat.add_mul, Nat.add_mul_mod_self_left]

theorem L4.copy {t p r : Nat → Nat} {n X b P : Nat} {y : Nat → Nat} (h : L4 t p n r b) (ho : LO X y P n (val t (n + 1))) (hP : P = val p n)
    (hlt : X * val y n < P * W ^ n) (ht : ∀ k, t k < W) (hb : t n < b) : MulOK n X (val y n) P (fun k => if k < n then t k else 0) := by
  obtain ⟨h1, h2, h3, h4⟩ := h
  obtain ⟨o1, o2⟩ := ho.last hlt
  have hr : val r n < W ^ n := val_lt fun i _ => h3 i
  have e0 : t n = 0 := by omega
  have e1 : b = 1 := by omega
  rw [val, e0, Nat.zero_mul, Nat.add_zero] at o1 o2
  rw [← hP, e1, Nat.one_mul] at h1
  have ev : val (fun k => if k < n then t k else 0) n = val t n := val_congr fun i hi => by simp [hi]
  refine ⟨fun k => ?_, fun k hk => ?_, ?_, ?_⟩
  · dsimp only; split
    · exact ht k
    · exact W_pos
  · simp; omega
  · rw [ev]; omega
  · rw [ev]; exact o2

theorem newton_step {p i i' K K' : Int} (h : K ∣ 1 - p * i) (hi' : i' % 18446744073709551616 = (i * (2 - p * i)) % 18446744073709551616)
    (hK : K' ∣ K * K) (hW : K' ∣ 18446744073709551616) : K' ∣ 1 - p * i' := by
  obtain ⟨a, ha⟩ := h
  obtain ⟨k, hk⟩ := hK
  obtain ⟨v, hv⟩ := hW
  obtain ⟨q, hq⟩ : ∃ q, i' = i * (2 - p * i) + 18446744073709551616 * q := ⟨i' / 18446744073709551616 - (i * (2 - p * i)) / 18446744073709551616, by omega⟩
  refine ⟨k * a * a - p * v * q, ?_⟩
  have e : 1 - p * i' = (1 - p * i) * (1 - p * i) - p * (18446744073709551616 * q) := by rw [hq]; grind
  rw [e, ha, hv]
  have : K * a * (K * a) = K * K * a * a := by grind
  rw [this, hk]
  grind

theorem odd_sq {p : Int} (h : p % 2 = 1) : (8 : Int) ∣ 1 - p * p := by
  obtain ⟨q, r, hr, hq⟩ : ∃ q r : Int, (r = 1 ∨ r = 3 ∨ r = 5 ∨ r = 7) ∧ p = 8 * q + r := ⟨p / 8, p % 8, by omega, by omega⟩
  subst hq
  rcases hr with rfl | rfl | rfl | rfl
  · exact ⟨-(8 * q * q + 2 * q), by grind⟩
  · exact ⟨-(8 * q * q + 6 * q + 1), by grind⟩
  · exact ⟨-(8 * q * q + 10 * q + 3), by grind⟩
  · exact ⟨-(8 * q * q + 14 * q + 6), by grind⟩

/-- Five steps of Newton's iteration. -/
theorem newton {p i1 i2 i3 i4 i5 : Int} (h : p % 2 = 1)
    (h1 : i1 % 18446744073709551616 = (p * (2 - p * p)) % 18446744073709551616)
    (h2 : i2 % 18446744073709551616 = (i1 * (2 - p * i1)) % 18446744073709551616)
    (h3 : i3 % 18446744073709551616 = (i2 * (2 - p * i2)) % 18446744073709551616)
    (h4 : i4 % 18446744073709551616 = (i3 * (2 - p * i3)) % 18446744073709551616)
    (h5 : i5 % 18446744073709551616 = (i4 * (2 - p * i4)) % 18446744073709551616) :
    (18446744073709551616 : Int) ∣ 1 - p * i5 := by
  have a0 := odd_sq h
  have a1 : (64 : Int) ∣ 1 - p * i1 := newton_step a0 h1 ⟨1, by decide⟩ ⟨288230376151711744, by decide⟩
  have a2 : (4096 : Int) ∣ 1 - p * i2 := newton_step a1 h2 ⟨1, by decide⟩ ⟨4503599627370496, by decide⟩
  have a3 : (16777216 : Int) ∣ 1 - p * i3 := newton_step a2 h3 ⟨1, by decide⟩ ⟨1099511627776, by decide⟩
  have a4 : (281474976710656 : Int) ∣ 1 - p * i4 := newton_step a3 h4 ⟨1, by decide⟩ ⟨65536, by decide⟩
  exact newton_step a4 h5 ⟨4294967296, by decide⟩ ⟨1, by decide⟩

/-- The word that makes the lowest word zero. -/
theorem mred {m t p q hi lo c s : Nat} (hm : m < W) (ht : t < W) (hp : p < W) (hq : (p * q + 1) % W = 0) (hmd : m = t * q % W)
    (h1 : m * p = hi * W + lo) (h2 : lo + t = c * W + s) (hs : s < W) : hi + c < W ∧ (hi + c) * W = m * p + t := by
  have hb : m * p ≤ 18446744073709551615 * 18446744073709551615 := Nat.mul_le_mul (by unfold W at *; omega) (by unfold W at *; omega)
  have hz : (m * p + t) % W = 0 := by
    rw [hmd, Nat.add_mod, Nat.mod_mul_mod, ← Nat.add_mod]
    have e : t * q * p + t = t * (p * q + 1) := by grind
    rw [e, Nat.mul_mod, hq]
    simp
  clear hmd
  generalize m * p = a at *
  unfold W at *
  omega
end Go.Proofs.Qxb6002380a
