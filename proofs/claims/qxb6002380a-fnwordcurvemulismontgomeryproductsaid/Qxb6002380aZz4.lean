import Derived.Test.Qxb6002380aZz2
namespace Go.Proofs.Qxb6002380a
open Go.RowKit

theorem sub_alg {B V u p r b d pj rj b' : Nat} (h : u + p = r + b * V) (he : d + pj + b = rj + b' * B) : u + d * V + (p + pj * V) = r + rj * V + b' * (V * B) := by
  have e2 : (d + pj + b) * V = (rj + b' * B) * V := by rw [he]
  grind

/-- Subtraction in place: j words done. -/
def L5 (r p : Nat → Nat) (j : Nat) (u : Nat → Nat) (b : Nat) : Prop :=
  val u j + val p j = val r j + b * W ^ j ∧ (∀ k, j ≤ k → u k = r k) ∧ (∀ k, u k < W) ∧ b ≤ 1

theorem L5.start {r p : Nat → Nat} (hr : ∀ k, r k < W) : L5 r p 0 r 0 := ⟨by simp [val], fun _ _ => rfl, hr, by omega⟩

theorem L5.step {r p u : Nat → Nat} {j b d b' : Nat} (h : L5 r p j u b) (hd : d < W) (hb' : b' ≤ 1) (he : d + p j + b = r j + b' * W) : L5 r p (j + 1) (up u j d) b' := by
  obtain ⟨h1, h2, h3, h4⟩ := h
  refine ⟨?_, fun k hk => ?_, up_lt h3 hd, hb'⟩
  · rw [val, val_up_ge (Nat.le_refl j), up_same, val, val, Nat.pow_succ]
    exact sub_alg h1 he
  · rw [up_ne _ (by omega), h2 k (by omega)]

theorem val_pad (p : Nat → Nat) (n : Nat) : val (pad p n) (n + 1) = val p n := by
  rw [val]
  have e : pad p n n = 0 := by simp [pad]
  rw [e, val_congr (g := p) fun i hi => by simp [pad, hi]]
  simp

theorem L5.last {r p u : Nat → Nat} {n b : Nat} (h : L5 r (pad p n) (n + 1) u b) (hle : val p n ≤ val r (n + 1)) : val u (n + 1) + val p n = val r (n + 1) := by
  obtain ⟨h1, h2, h3, h4⟩ := h
  rw [val_pad] at h1
  have hu : val u (n + 1) < W ^ (n + 1) := val_lt fun i _ => h3 i
  have hb : b = 0 := by
    rcases Nat.lt_or_ge b 1 with h | h
    · omega
    · have e : b = 1 := by omega
      rw [e] at h1
      omega
  rw [hb] at h1
  omega

/-- One word's subtraction as the law's own text does it. -/
theorem sub_word (x y b : Nat) (hx : x < 18446744073709551616) (hy : y < 18446744073709551616) (hb : b ≤ 1) : ∃ d o : Nat, d < 18446744073709551616 ∧ o ≤ 1 ∧ d + y + b = x + o * 18446744073709551616 ∧
    IntKind.u64.wrap (IntKind.u64.wrap ((x : Int) - (y : Int)) - (b : Int)) = (d : Int) ∧ ((x < y ∧ o = 1) ∨ (¬ x < y ∧ IntKind.u64.wrap ((x : Int) - (y : Int)) < (b : Int) ∧ o = 1) ∨ (¬ x < y ∧ ¬ IntKind.u64.wrap ((x : Int) - (y : Int)) < (b : Int) ∧ o = 0)) := by
  rw [IntKind.wrap_u64, IntKind.wrap_u64]
  by_cases h : x < y
  · exact ⟨x + 18446744073709551616 - y - b, 1, by omega, by omega, by omega, by omega, Or.inl ⟨h, rfl⟩⟩
  · by_cases h2 : x - y < b
    · exact ⟨x + 18446744073709551616 - y - b, 1, by omega, by omega, by omega, by omega, Or.inr (Or.inl ⟨h, by omega, rfl⟩)⟩
    · exact ⟨x - y - b, 0, by omega, by omega, by omega, by omega, Or.inr (Or.inr ⟨h, by omega, rfl⟩)⟩

set_option maxRecDepth 100000 in
set_option maxHeartbeats 2000000 in
/-- zzSubExt. -/
theorem sub41 (rb pb po n cp : Nat) (r p : Nat → Nat) (w : World) (hn : n ≤ 4096) (hr : ∀ k, r k < W) (hp : ∀ k, p k < W) (hrc : w.rowIs rb 31 (n + 1) (fun i => .int .u64 (r i : Nat))) (hpc : Sl w pb po n p) (hne : pb ≠ rb) (hle : val p n ≤ val r (n + 1)) :
    Calls Try.prog 41 #[.slice (some ⟨rb, 0, none⟩) (n + 1 : Nat) (n + 1 : Nat), .slice (some ⟨pb, po, none⟩) n cp] w fun e w' =>
      ∃ u, e = .returned (.tuple #[]) ∧ w'.rowIs rb 31 (n + 1) (fun i => .int .u64 (u i : Nat)) ∧ (∀ k, u k < W) ∧ val u (n + 1) + val p n = val r (n + 1) ∧ (∀ k, k ≠ rb → w'.heap[k]? = w.heap[k]?) ∧ Below rb w w' := by
  have Hr := hide hr
  have Hp := hide hp
  have Hpp : Hid (∀ k, pad p n k < W) := hide (pad_lt fun i _ => hp i)
  have Hrc := hide hrc
  have Hpc := hide hpc
  have Hle := hide hle
  clear hr hp hrc hpc hle
  go_enter Try.func41, Try.ntmps41
  go_wp2
  go_loopw [4, 5] (fun s4 s5 wr => ∃ (j b : Nat) (u : Nat → Nat), j ≤ n + 1 ∧ s4 = .int .u64 (b : Nat) ∧ s5 = .int .i64 (j : Int) ∧ L5 r (pad p n) j u b ∧ wr.rowIs rb 31 (n + 1) (fun i => .int .u64 (u i : Nat)) ∧ (∀ k, k ≠ rb → wr.heap[k]? = w.heap[k]?) ∧ Below rb w wr) (fun _ s5 _ => n + 1 - (intOf s5).toNat)
  case atStart => exact ⟨0, 0, r, by omega, by go_num, by go_num, L5.start Hr.out, Hrc.out, fun _ _ => rfl, Below.refl _ _⟩
  case round =>
    obtain ⟨j, b, u, hj, rfl, rfl, h5, hur, ho, hb⟩ := hrel
    have H5 := hide h5
    have Hur := hide hur
    have Ho := hide ho
    have Hb := hide hb
    clear h5 hur ho hb
    by_cases hlt : j ≤ n
    · have i1 : (j : Int) ≤ (n : Int) := by omega
      have i2 : (j : Int) < (n : Int) + 1 := by omega
      have cj : wr.cell? ⟨rb, j, none⟩ = some (.int .u64 (u j : Nat)) := Hur.out.cell (i := j) (by omega)
      have fj := Hur.out.frozen j
      have Hsl : Hid (Sl wr pb po n p) := hide fun i hi => (World.cell?_of_block (w := w) (Ho.out pb hne)).trans (Hpc.out i hi)
      go_wp2_with fail
      refine (word56 pb po n cp j p wr Hsl.out).mono ?_
      rintro e w1 ⟨rfl, hw⟩
      have hw := hw.symm
      subst hw
      obtain ⟨pj, hpj⟩ : ∃ pj, pj = pad p n j := ⟨_, rfl⟩
      rw [← hpj]
      have hpjW : pj < W := by rw [hpj]; exact Hpp.out j
      obtain ⟨d, o, hd, ho, he, hwr, hcase⟩ := sub_word (u j) pj b (H5.out.2.2.1 j) hpjW H5.out.2.2.2
      have HE : Hid (L5 r (pad p n) (j + 1) (up u j d) o) := hide (H5.out.step hd ho (by rw [← hpj, ← H5.out.2.1 j (Nat.le_refl j)]; exact he))
      clear he hpj hpjW
      rcases hcase with ⟨h1, rfl⟩ | ⟨h1, h2, rfl⟩ | ⟨h1, h2, rfl⟩
      · have h1' : (u j : Int) < (pj : Int) := by omega
        go_wp2
        go_roundw
        case rel =>
          refine ⟨j + 1, 1, up u j d, by omega, by go_num, by go_num, HE.out, (Hur.out.set j _).congr fun k _ => ?_, fun k hk => (heap_setCell_other _ _ _ _ hk).trans (Ho.out k hk), Hb.out.setCell (p := ⟨rb, j, none⟩) (Nat.le_refl _) _⟩
          unfold up
          by_cases e : k = j <;> simp [e]
        case measure => simp [intOf]; omega
      · have h1' : ¬ ((u j : Int) < (pj : Int)) := by omega
        go_wp2
        go_roundw
        case rel =>
          refine ⟨j + 1, 1, up u j d, by omega, by go_num, by go_num, HE.out, (Hur.out.set j _).congr fun k _ => ?_, fun k hk => (heap_setCell_other _ _ _ _ hk).trans (Ho.out k hk), Hb.out.setCell (p := ⟨rb, j, none⟩) (Nat.le_refl _) _⟩
          unfold up
          by_cases e : k = j <;> simp [e]
        case measure => simp [intOf]; omega
      · have h1' : ¬ ((u j : Int) < (pj : Int)) := by omega
        go_wp2
        go_roundw
        case rel =>
          refine ⟨j + 1, 0, up u j d, by omega, by go_num, by go_num, HE.out, (Hur.out.set j _).congr fun k _ => ?_, fun k hk => (heap_setCell_other _ _ _ _ hk).trans (Ho.out k hk), Hb.out.setCell (p := ⟨rb, j, none⟩) (Nat.le_refl _) _⟩
          unfold up
          by_cases e : k = j <;> simp [e]
        case measure => simp [intOf]; omega
    · have i1 : ¬ ((j : Int) ≤ (n : Int)) := by omega
      have Hv : Hid (val u (n + 1) + val p n = val r (n + 1)) := hide (by have h := H5.out; rw [show j = n + 1 by omega] at h; exact h.last Hle.out)
      go_wp2
      go_end0
      exact ⟨rfl, u, Hur.out, H5.out.2.2.1, Hv.out, Ho.out, Hb.out⟩

theorem sh_alg {B V u r b bit d rj c : Nat} (h : u + b * V = 2 * r + bit) (he : d + c * B = 2 * rj + b) : u + d * V + c * (V * B) = 2 * (r + rj * V) + bit := by
  have e2 : (d + c * B) * V = (2 * rj + b) * V := by rw [he]
  grind

/-- Shift by one in place: j words done. -/
def L6 (r : Nat → Nat) (bit j : Nat) (u : Nat → Nat) (c : Nat) : Prop :=
  val u j + c * W ^ j = 2 * val r j + bit ∧ (∀ k, j ≤ k → u k = r k) ∧ (∀ k, u k < W) ∧ c ≤ 1

theorem L6.start {r : Nat → Nat} {bit : Nat} (hr : ∀ k, r k < W) (hb : bit ≤ 1) : L6 r bit 0 r bit := ⟨by simp [val], fun _ _ => rfl, hr, hb⟩

theorem L6.step {r u : Nat → Nat} {bit j b d c : Nat} (h : L6 r bit j u b) (hd : d < W) (hc : c ≤ 1) (he : d + c * W = 2 * r j + b) : L6 r bit (j + 1) (up u j d) c := by
  obtain ⟨h1, h2, h3, h4⟩ := h
  refine ⟨?_, fun k hk => ?_, up_lt h3 hd, hc⟩
  · rw [val, val_up_ge (Nat.le_refl j), up_same, val, Nat.pow_succ]
    exact sh_alg h1 he
  · rw [up_ne _ (by omega), h2 k (by omega)]

theorem L6.last {r u : Nat → Nat} {n bit c P : Nat} (h : L6 r bit (n + 1) u c) (hr : val r (n + 1) < P) (hP : P < W ^ n) (hb : bit ≤ 1) : val u (n + 1) = 2 * val r (n + 1) + bit := by
  obtain ⟨h1, h2, h3, h4⟩ := h
  have hW : 2 * W ^ n ≤ W ^ (n + 1) := by rw [Nat.pow_succ, Nat.mul_comm]; exact Nat.mul_le_mul_left _ (by unfold W; omega)
  have hc : c = 0 := by
    rcases Nat.lt_or_ge c 1 with h | h
    · omega
    · have e : c = 1 := by omega
      rw [e] at h1
      omega
  rw [hc] at h1
  omega

/-- One word's shift as the law's own text does it. -/
theorem sh_word (x c : Nat) (hx : x < 18446744073709551616) (hc : c ≤ 1) : ∃ d o : Nat, d < 18446744073709551616 ∧ o ≤ 1 ∧ d + o * 18446744073709551616 = 2 * x + c ∧ (x : Int) / 9223372036854775808 = (o : Int) ∧
    bits .or .u64 (IntKind.u64.wrap ((x : Int) * 2)) (c : Int) = (d : Int) := by
  refine ⟨2 * x % 18446744073709551616 + c, x / 9223372036854775808, by omega, by omega, by omega, by omega, ?_⟩
  have e1 : IntKind.u64.wrap ((x : Int) * 2) = ((2 * (x % 9223372036854775808) : Nat) : Int) := by rw [IntKind.wrap_u64]; omega
  have e2 : 2 * x % 18446744073709551616 = 2 * (x % 9223372036854775808) := by omega
  rw [e1, u64_or_nat _ _ (by omega) (by omega), e2]
  have h := Nat.two_pow_add_eq_or_of_lt (i := 1) (b := c) (by omega) (x % 9223372036854775808)
  rw [Nat.pow_one] at h
  rw [h]

/-- The bits of a number in words. -/
theorem val_bit {a : Nat → Nat} (ha : ∀ k, a k < W) {m q s : Nat} (hq : q < m) (hs : s < 64) : val a m / 2 ^ (64 * q + s) % 2 = a q / 2 ^ s % 2 := by
  have hW : W = 2 ^ 64 := by decide
  have key : ∀ m, q < m → ∃ t, val a m = val a q + (a q + t * W) * W ^ q := by
    intro m
    induction m with
    | zero => intro h; omega
    | succ m ih =>
      intro h
      by_cases e : m = q
      · subst e; exact ⟨0, by rw [val]; simp⟩
      · obtain ⟨t, ht⟩ := ih (by omega)
        refine ⟨t + a m * W ^ (m - q - 1), ?_⟩
        have e2 : W ^ m = W ^ (m - q - 1) * W * W ^ q := by rw [← Nat.pow_succ, ← Nat.pow_add]; congr 1; omega
        rw [val, ht, e2]
        generalize W ^ (m - q - 1) = A
        generalize W ^ q = V
        generalize W = B
        grind
  obtain ⟨t, ht⟩ := key m hq
  have hlt : val a q < W ^ q := val_lt fun i _ => ha i
  have e1 : val a m / W ^ q = a q + t * W := by
    rw [ht, Nat.add_mul_div_right _ _ (Wp_pos q), Nat.div_eq_of_lt hlt, Nat.zero_add]
  have e2 : 2 ^ (64 * q + s) = W ^ q * 2 ^ s := by rw [Nat.pow_add, Nat.pow_mul, hW]
  rw [e2, ← Nat.div_div_eq_div_mul, e1]
  have e3 : t * W = t * 2 ^ (63 - s) * 2 * 2 ^ s := by
    rw [hW, Nat.mul_assoc, Nat.mul_assoc]
    congr 1
    rw [← Nat.pow_succ', ← Nat.pow_add]
    congr 1
    omega
  rw [e3, Nat.add_mul_div_right _ _ (Nat.pow_pos (by decide)), Nat.add_mul_mod_self_right]
end Go.Proofs.Qxb6002380a
