import Derived.Test.Qxb6002380aXor1
import Derived.Test.Qxb6002380aXorPlain
import Derived.RegionTactic
import Derived.Laws.BitsAll
namespace Go.Proofs.Qxb6002380a
open Go.RowKit

theorem xor_shr (x t k : Nat) (hx : x < 18446744073709551616) (ht : t < 18446744073709551616) : bits .xor .u64 (x : Int) ((t : Int) / 2 ^ k) = ((x ^^^ t / 2 ^ k : Nat) : Int) := by
  have e : (t : Int) / 2 ^ k = ((t / 2 ^ k : Nat) : Int) := by rw [Int.natCast_ediv, Int.natCast_pow]; rfl
  rw [e]
  exact u64_xor_nat _ _ hx (Nat.lt_of_le_of_lt (Nat.div_le_self _ _) ht)

theorem xor_shl (x t r : Nat) (hx : x < 18446744073709551616) : bits .xor .u64 (x : Int) (IntKind.u64.wrap ((t : Int) * 2 ^ r)) = ((x ^^^ t * 2 ^ r % 2 ^ 64 : Nat) : Int) := by
  have e : IntKind.u64.wrap ((t : Int) * 2 ^ r) = ((t * 2 ^ r % 2 ^ 64 : Nat) : Int) := by
    rw [IntKind.wrap_u64, Int.natCast_emod, Int.natCast_mul, Int.natCast_pow]; rfl
  rw [e]
  exact u64_xor_nat _ _ hx (Nat.mod_lt _ (by decide))

/-- What xorShifted does to its words. -/
def XorP (b n t : Nat) (s : Int) (z : Nat → Nat) (w : World) (e : Ending) (w' : World) : Prop :=
  e = .returned (.tuple #[]) ∧ w'.rowIs b 58 n (fun i => .int .u64 (xs z t s i : Nat)) ∧ Below b w w'

set_option maxRecDepth 100000 in
set_option maxHeartbeats 1000000 in
theorem xor_neg (b n t k : Nat) (z : Nat → Nat) (w : World) (hk0 : 1 ≤ k) (hk : k ≤ 63) (hn0 : 0 < n) (hn : n ≤ 4096) (ht : t < 18446744073709551616) (hz : ∀ i, i < n → z i < 18446744073709551616) (hrow : w.rowIs b 58 n (fun i => .int .u64 (z i : Nat))) :
    Calls Try.prog 33 #[.slice (some ⟨b, 0, none⟩) n n, .int .u64 t, .int .i64 (-(k : Int))] w (XorP b n t (-(k : Int)) z w) := by
  have hn0' : (0 : Int) < (n : Int) := by omega
  have hc := hrow.cell hn0
  have hf := hrow.frozen 0
  have hx := xor_shr (z 0) t k (hz 0 hn0) ht
  have Hrow := hide hrow
  have Hz := hide hz
  clear hrow hz
  go_enter Try.func33, Try.ntmps33
  go_wp2
  go_region
  go_wp2
  go_end0
  refine ⟨rfl, (Hrow.out.set 0 _).drew.congr (fun i hi => ?_), ((Below.refl b w).setCell (p := ⟨b, 0, none⟩) (Nat.le_refl b) _).drew⟩
  have hneg : -(k : Int) < 0 := by omega
  have e : (- -(k : Int)).toNat = k := by omega
  unfold xs
  rw [if_pos hneg, e]
  by_cases h : i = 0
  · subst h; simp
  · simp [h]

set_option maxRecDepth 100000 in
set_option maxHeartbeats 1000000 in
theorem xor_pos (b n t q r : Nat) (z : Nat → Nat) (w : World) (hr : r < 64) (hq : q < n) (hn : n ≤ 4096) (ht : t < 18446744073709551616) (hz : ∀ i, i < n → z i < 18446744073709551616) (hhigh : t / 2 ^ (64 - r) ≠ 0 → q + 1 < n) (hrow : w.rowIs b 58 n (fun i => .int .u64 (z i : Nat))) :
    Calls Try.prog 33 #[.slice (some ⟨b, 0, none⟩) n n, .int .u64 t, .int .i64 (64 * (q : Int) + r)] w (XorP b n t (64 * (q : Int) + r) z w) := by
  have e1 : (64 * (q : Int) + r) / 64 = q := by omega
  have e2 : (64 * (q : Int) + r) % 64 = r := by omega
  have hc := hrow.cell hq
  have hf := hrow.frozen q
  have hx := xor_shl (z q) t r (hz q hq)
  have Hrow := hide hrow
  have Hz := hide hz
  have Hhigh := hide hhigh
  clear hrow hz hhigh
  have ec : (t : Int) / 2 ^ (64 - r) = ((t / 2 ^ (64 - r) : Nat) : Int) := by rw [Int.natCast_ediv, Int.natCast_pow]; rfl
  have s1 : ¬ (64 * (q : Int) + r < 0) := by omega
  have s2 : (64 * (q : Int) + r).toNat / 64 = q := by omega
  have s3 : (64 * (q : Int) + r).toNat % 64 = r := by omega
  have HS := hide (And.intro s1 (And.intro s2 s3))
  clear s1 s2 s3
  by_cases hh : t / 2 ^ (64 - r) = 0
  · have hb : ((t : Int) / 2 ^ (64 - r) != 0) = false := by rw [ec, hh]; rfl
    have Hh := hide hh
    clear hh ec
    go_enter Try.func33, Try.ntmps33
    go_wp2
    go_region
    go_wp2
    go_end0
    refine ⟨rfl, (Hrow.out.set q _).drew.congr (fun i hi => ?_), ((Below.refl b w).setCell (p := ⟨b, q, none⟩) (Nat.le_refl b) _).drew⟩
    unfold xs
    rw [if_neg (Int.not_lt.2 HS.out.1), HS.out.2.1, HS.out.2.2, Hh.out]
    by_cases h : i = q
    · subst h; simp
    · simp [h]
  · have hb : ((t : Int) / 2 ^ (64 - r) != 0) = true := by rw [ec, bne_iff_ne]; omega
    have hq1 := Hhigh.out hh
    have hq1' : (q : Int) + 1 < (n : Int) := by omega
    have hc1 := Hrow.out.cell hq1
    have hf1 := Hrow.out.frozen (q + 1)
    have hx1 := xor_shr (z (q + 1)) t (64 - r) (Hz.out (q + 1) hq1) ht
    clear hh ec
    go_enter Try.func33, Try.ntmps33
    go_wp2
    go_region
    go_wp2
    go_end0
    refine ⟨rfl, (((Hrow.out.set q _).set (q + 1) _).drew).congr (fun i hi => ?_), (((Below.refl b w).setCell (p := ⟨b, q, none⟩) (Nat.le_refl b) _).setCell (p := ⟨b, q + 1, none⟩) (Nat.le_refl b) _).drew⟩
    unfold xs
    rw [if_neg (Int.not_lt.2 HS.out.1), HS.out.2.1, HS.out.2.2]
    by_cases h : i = q
    · subst h; simp
    · by_cases h1 : i = q + 1
      · subst h1; simp
      · simp [h, h1]

/-- xorShifted, whatever the shift. -/
theorem xor33 (b n t : Nat) (s : Int) (z : Nat → Nat) (w : World) (hs1 : -63 ≤ s) (hs2 : s < 64 * (n : Int)) (hn0 : 0 < n) (hn : n ≤ 4096) (ht : t < 18446744073709551616) (hz : ∀ i, i < n → z i < 18446744073709551616) (hfit : Fit t s n) (hrow : w.rowIs b 58 n (fun i => .int .u64 (z i : Nat))) :
    Calls Try.prog 33 #[.slice (some ⟨b, 0, none⟩) n n, .int .u64 t, .int .i64 s] w (XorP b n t s z w) := by
  by_cases h : s < 0
  · obtain ⟨k, hk⟩ : ∃ k : Nat, s = -(k : Int) := ⟨(-s).toNat, by omega⟩
    subst hk
    exact xor_neg b n t k z w (by omega) (by omega) hn0 hn ht hz hrow
  · obtain ⟨q, r, hr, he⟩ : ∃ q r : Nat, r < 64 ∧ s = 64 * (q : Int) + r := ⟨s.toNat / 64, s.toNat % 64, by omega, by omega⟩
    have hh := fit_high (s := s) (n := n) (by omega) ht hfit
    have e1 : s.toNat % 64 = r := by omega
    have e2 : s.toNat / 64 = q := by omega
    rw [e1, e2] at hh
    subst he
    exact xor_pos b n t q r z w hr (by omega) hn ht hz hh hrow
end Go.Proofs.Qxb6002380a
