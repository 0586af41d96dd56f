import Derived.Test.Qxb6002380aXor3
namespace Go.Proofs.Qxb6002380a
open Go.RowKit

theorem bit_and (t k : Nat) (ht : t < 18446744073709551616) : bits .and .u64 ((t : Int) / 2 ^ k) 1 = if t.testBit k then 1 else 0 := by
  have e : (t : Int) / 2 ^ k = ((t / 2 ^ k : Nat) : Int) := by rw [Int.natCast_ediv, Int.natCast_pow]; rfl
  rw [e]
  have h := u64_and_nat (t / 2 ^ k) 1 (Nat.lt_of_le_of_lt (Nat.div_le_self _ _) ht) (by decide)
  have h' : bits .and .u64 ((t / 2 ^ k : Nat) : Int) 1 = ((t / 2 ^ k &&& 1 : Nat) : Int) := h
  rw [h', Nat.and_one_is_mod]
  have hb : t.testBit k = decide (t / 2 ^ k % 2 = 1) := by rw [Nat.testBit_eq_decide_div_mod_eq]
  rw [hb]
  by_cases h1 : t / 2 ^ k % 2 = 1
  · simp [h1]
  · have h0 : t / 2 ^ k % 2 = 0 := by omega
    simp [h0]

theorem xor_one (x Q : Nat) (hx : x < 18446744073709551616) (hQ : Q < 64) : bits .xor .u64 (x : Int) (IntKind.u64.wrap (2 ^ Q)) = ((x ^^^ 2 ^ Q : Nat) : Int) := by
  have h1 : 2 ^ Q < 2 ^ 64 := Nat.pow_lt_pow_right (by decide) (by omega : Q < 64)
  have e : IntKind.u64.wrap ((2 : Int) ^ Q) = ((2 ^ Q : Nat) : Int) := by
    have e0 : (2 : Int) ^ Q = ((2 ^ Q : Nat) : Int) := by rw [Int.natCast_pow]; rfl
    rw [e0, IntKind.wrap_u64]
    generalize 2 ^ Q = c at h1 ⊢
    omega
  rw [e]
  exact u64_xor_nat _ _ hx h1

set_option maxRecDepth 100000 in
set_option maxHeartbeats 4000000 in
theorem law5 (b off n cap t : Nat) (s : Int) (z : Nat → Nat) (w : World) (hn0 : 0 < n) (hn : n ≤ 4096) (hs1 : -63 ≤ s) (hs2 : s < 64 * (n : Int)) (ht : t < 18446744073709551616) (hz : ∀ i, i < n → z i < 18446744073709551616)
    (hlt : b < w.heap.size) (hc : ∀ i, i < n → w.cell? ⟨b, off + i, none⟩ = some (.int .u64 (z i : Nat))) :
    Calls Try.prog 5 #[.slice (some ⟨b, off, none⟩) n cap, .int .u64 t, .int .i64 s] w fun e w' => e = .returned (.bool true) ∧ Below w.heap.size w w' := by
  have Hc := hide hc
  have Hz := hide hz
  clear hc hz
  have h20 : n ≤ 1048576 := by omega
  have h41 : (n : Int) ≤ 4096 := by omega
  have hne : ((n : Int) == 0) = false := by simp; omega
  go_enter Try.func5, Try.ntmps5
  go_wp2_with (go_at_call 16; refine (bytes16 _ _ _ _ _ _ (by unfold maxLen; omega)).mono ?_; rintro e w1 ⟨rfl, hw1⟩; subst hw1)
  go_loop [8] (fun i => ∃ k : Nat, k ≤ 64 ∧ i = .int .i64 k ∧ ∀ j : Nat, j < k → t.testBit j = true → 0 ≤ (j : Int) + s ∧ (j : Int) + s < 64 * (n : Int)) (fun i => 64 - (intOf i).toNat)
  case atStart => exact ⟨0, by omega, rfl, fun j h => by omega⟩
  case round =>
    obtain ⟨k, hk, rfl, hf⟩ := hrel
    have Hf := hide hf
    clear hf
    by_cases hk64 : k < 64
    · have hmin : min k 64 = k := by omega
      have hba := bit_and t k ht
      cases hb : t.testBit k
      · rw [hb] at hba
        have hba' : bits .and .u64 ((t : Int) / 2 ^ k) 1 = 0 := hba
        have Hb := hide hb
        clear hba hb
        go_wp2
        go_round
        case rel =>
          refine ⟨k + 1, by omega, by go_num, fun j hj hjt => ?_⟩
          rcases Nat.lt_or_ge j k with h | h
          · exact Hf.out j h hjt
          · have : j = k := by omega
            subst this; rw [Hb.out] at hjt; cases hjt
        case measure => simp [intOf]; omega
      · rw [hb] at hba
        have hba' : bits .and .u64 ((t : Int) / 2 ^ k) 1 = 1 := hba
        have Hb := hide hb
        clear hba hb
        by_cases h1 : (k : Int) + s < 0
        · go_wp2
          go_ret
          exact ⟨rfl, Below.refl _ _⟩
        by_cases h2 : 64 * (n : Int) ≤ (k : Int) + s
        · go_wp2
          go_ret
          exact ⟨rfl, Below.refl _ _⟩
        go_wp2
        go_round
        case rel =>
          refine ⟨k + 1, by omega, by go_num, fun j hj hjt => ?_⟩
          rcases Nat.lt_or_ge j k with h | h
          · exact Hf.out j h hjt
          · have : j = k := by omega
            subst this; omega
        case measure => simp [intOf]; omega
    · obtain rfl : k = 64 := by omega
      have Hfit : Hid (Fit t s n) := Hf.out
      clear Hf
      go_wp2_with fail
      refine (clone_any b off n cap (fun i => (z i : Int)) _ hlt Hc.out hn).mono ?_
      rintro e w2 ⟨g1, rfl, hg1, hr1, hb1⟩
      have Hr1 := hide hr1
      have HB1 := hide hb1
      clear hr1 hb1
      go_wp2_with fail
      refine (clone_any g1 0 n n (fun i => (z i : Int)) _ Hr1.out.lt (fun i hi => by rw [Nat.zero_add]; exact Hr1.out.cell hi) hn).mono ?_
      rintro e w3 ⟨g2, rfl, hg2, hr2, hb2⟩
      have Hr1' := hide (rowIs_below Hr1.out hb2)
      have hlt12 : g1 < g2 := Nat.lt_of_lt_of_le Hr1.out.lt hg2
      have Hr2 := hide hr2
      have HB2 := hide (HB1.out.trans (hb2.mono HB1.out.size))
      clear hr2 hb2 Hr1 HB1
      go_wp2
      go_loopw [11] (fun i wr => ∃ k : Nat, k ≤ 64 ∧ i = .int .i64 k ∧ wr.rowIs g1 35 n (fun i => .int .u64 (z i : Nat)) ∧ wr.rowIs g2 35 n (fun p => .int .u64 (flips z t s k p : Nat)) ∧ Below w1.heap.size w1 wr) (fun i _ => 64 - (intOf i).toNat)
      case atStart => exact ⟨0, by omega, rfl, Hr1'.out, Hr2.out, HB2.out⟩
      case round =>
        clear Hr1' Hr2 HB2
        obtain ⟨k, hk, rfl, hr1, hr2, hbel⟩ := hrel
        by_cases hk64 : k < 64
        · have hmin : min k 64 = k := by omega
          have hba := bit_and t k ht
          cases hb : t.testBit k
          · rw [hb] at hba
            have hba' : bits .and .u64 ((t : Int) / 2 ^ k) 1 = 0 := hba
            have Hb := hide hb
            have Hr1 := hide hr1
            have Hr2 := hide hr2
            clear hba hb hr1 hr2
            go_wp2
            go_roundw
            case rel =>
              refine ⟨k + 1, by omega, by go_num, Hr1.out, Hr2.out.congr (fun p hp => ?_), hbel⟩
              simp only [flips, Hb.out]
              simp
            case measure => simp [intOf]; omega
          · have hfk := Hfit.out k hk64 hb
            rw [hb] at hba
            have hba' : bits .and .u64 ((t : Int) / 2 ^ k) 1 = 1 := hba
            have Hb := hide hb
            clear hba hb
            obtain ⟨P, hP⟩ : ∃ P : Nat, ((k : Int) + s) / 64 = (P : Int) := ⟨(((k : Int) + s) / 64).toNat, by omega⟩
            obtain ⟨Q, hQ⟩ : ∃ Q : Nat, ((k : Int) + s) % 64 = (Q : Int) := ⟨(((k : Int) + s) % 64).toNat, by omega⟩
            have hPn : P < n := by omega
            have hPn' : (P : Int) < (n : Int) := by omega
            have hQ64 : Q < 64 := by omega
            have hminQ : min Q 64 = Q := by omega
            have hcP := hr2.cell hPn
            have hfP := hr2.frozen P
            have hx := xor_one (flips z t s k P) Q (flips_lt (Hz.out P hPn) k) hQ64
            obtain ⟨hf1, hf2⟩ := hfk
            have Hr1 := hide hr1
            have Hr2 := hide hr2
            have Hbel := hide hbel
            clear hr1 hr2 hbel
            go_wp2
            go_roundw
            case rel =>
              refine ⟨k + 1, by omega, by go_num, Hr1.out.setOther (by show g1 ≠ g2; omega) _, (Hr2.out.set P _).congr (fun p hp => ?_), Hbel.out.setCell (by show w1.heap.size ≤ g2; omega) _⟩
              by_cases e : p = P
              · subst e
                have hcond : t.testBit k = true ∧ ((k : Int) + s) / 64 = (p : Int) := ⟨Hb.out, hP⟩
                have hqn : (((k : Int) + s) % 64).toNat = Q := by omega
                simp only [flips, hcond, and_self, if_true, hqn]
              · have hcond : ¬ (t.testBit k = true ∧ ((k : Int) + s) / 64 = (p : Int)) := by
                  intro h; rw [hP] at h; omega
                simp only [e, if_false, flips, hcond]
            case measure => simp [intOf]; omega
        · obtain rfl : k = 64 := by omega
          have Hr1 := hide hr1
          have Hr2 := hide hr2
          have Hbel := hide hbel
          clear hr1 hr2 hbel
          go_wp2_with fail
          refine (zzxor g1 0 n n t s z _ hs1 hs2 hn0 hn ht Hz.out Hfit.out Hr1.out.lt (fun i hi => by rw [Nat.zero_add]; exact Hr1.out.cell hi)).mono ?_
          rintro e w4 ⟨g3, rfl, hg3, hr3, hb4⟩
          have Hr3 : Hid (w4.rowIs g3 35 n (fun i => .int .u64 (flips z t s 64 i : Nat))) := hr3.congr (fun i hi => by rw [xs_flips hs1 ht Hfit.out (Hz.out i hi)])
          have Hr3' := hide hr3
          have Hr1' := hide (rowIs_below Hr1.out hb4)
          have Hr2' := hide (rowIs_below Hr2.out hb4)
          have HB4 := hide (Hbel.out.trans (hb4.mono Hbel.out.size))
          clear hr3 hb4 Hr1 Hr2 Hbel
          have hnn : ((n : Int) != (n : Int)) = false := by simp
          go_wp2
          go_loopw [14] (fun i wr => ∃ k q : Nat, k ≤ n ∧ i = .int .i64 k ∧ wr = w4.drewN q) (fun i _ => n - (intOf i).toNat)
          case atStart => exact ⟨0, 0, by omega, rfl, rfl⟩
          case round =>
            obtain ⟨k, qq, hk, rfl, rfl⟩ := hrel
            by_cases hkn : k < n
            · have c3 := Hr3.out.cell hkn
              have c2 := Hr2'.out.cell hkn
              go_wp2
              go_quiet (fail)
              go_wp2
              go_roundw
              case rel => exact ⟨k + 1, qq + nq, by omega, by go_num, by first | rfl | simp only [World.drewN_drewN]⟩
              case measure => simp [intOf]; omega
            · go_wp2_with fail
              refine (zzxor g3 0 n n t s (xs z t s) (w4.drewN qq) hs1 hs2 hn0 hn ht (fun i hi => xs_lt (Hz.out i hi) ht) Hfit.out Hr3'.out.lt (fun i hi => by rw [Nat.zero_add]; exact Hr3'.out.cell hi)).mono ?_
              rintro e w5 ⟨g4, rfl, hg4, hr4, hb5⟩
              have Hr4 : Hid (w5.rowIs g4 35 n (fun i => .int .u64 (z i : Nat))) := hr4.congr (fun i hi => by rw [xs_xs])
              have Hr1'' := hide (rowIs_below (w := w4.drewN qq) Hr1'.out hb5)
              have HB5 := hide ((below_drewN HB4.out qq).trans (hb5.mono HB4.out.size))
              clear hr4 hb5
              go_wp2
              go_loopw [16] (fun i wr => ∃ k q : Nat, k ≤ n ∧ i = .int .i64 k ∧ wr = w5.drewN q) (fun i _ => n - (intOf i).toNat)
              case atStart => exact ⟨0, 0, by omega, rfl, rfl⟩
              case round =>
                obtain ⟨j, q5, hj, rfl, rfl⟩ := hrel
                by_cases hjn : j < n
                · have c4 := Hr4.out.cell hjn
                  have c1 := Hr1''.out.cell hjn
                  go_wp2
                  go_quiet (fail)
                  go_wp2
                  go_roundw
                  case rel => exact ⟨j + 1, q5 + nq, by omega, by go_num, by first | rfl | simp only [World.drewN_drewN]⟩
                  case measure => simp [intOf]; omega
                · go_wp2
                  go_ret
                  exact ⟨rfl, below_drewN HB5.out _⟩

set_option maxRecDepth 100000 in
set_option maxHeartbeats 1000000 in
/-- The guards: outside them the law says true at once. -/
theorem law5_out (a : Option Addr) (n cap : Nat) (t s : Int) (w : World) (hn : n ≤ maxLen) (h : ¬ (0 < n ∧ n ≤ 4096 ∧ -63 ≤ s ∧ s < 64 * (n : Int))) :
    Calls Try.prog 5 #[.slice a n cap, .int .u64 t, .int .i64 s] w fun e w' => e = .returned (.bool true) ∧ Below w.heap.size w w' := by
  have hnm := hn
  unfold maxLen at hn
  by_cases h20 : n ≤ 1048576
  · by_cases h12 : n ≤ 4096
    · by_cases h0 : n = 0
      · subst h0
        go_enter Try.func5, Try.ntmps5
        go_wp2_with (go_at_call 16; refine (bytes16 _ _ _ _ _ _ hnm).mono ?_; rintro e w1 ⟨rfl, hw1⟩; subst hw1)
        go_ret
        exact ⟨rfl, Below.refl _ _⟩
      · have hne : ((n : Int) == 0) = false := by simp; omega
        have h41 : (n : Int) ≤ 4096 := by omega
        by_cases hs : s < -63
        · clear h
          go_enter Try.func5, Try.ntmps5
          go_wp2_with (go_at_call 16; refine (bytes16 _ _ _ _ _ _ hnm).mono ?_; rintro e w1 ⟨rfl, hw1⟩; subst hw1)
          go_ret
          exact ⟨rfl, Below.refl _ _⟩
        · have hs2 : 64 * (n : Int) ≤ s := by omega
          have hs1 : -63 ≤ s := by omega
          clear h hs
          go_enter Try.func5, Try.ntmps5
          go_wp2_with (go_at_call 16; refine (bytes16 _ _ _ _ _ _ hnm).mono ?_; rintro e w1 ⟨rfl, hw1⟩; subst hw1)
          go_ret
          exact ⟨rfl, Below.refl _ _⟩
    · have h41 : (4096 : Int) < (n : Int) := by omega
      clear h
      go_enter Try.func5, Try.ntmps5
      go_wp2_with (go_at_call 16; refine (bytes16 _ _ _ _ _ _ hnm).mono ?_; rintro e w1 ⟨rfl, hw1⟩; subst hw1)
      go_ret
      exact ⟨rfl, Below.refl _ _⟩
  · clear h
    go_enter Try.func5, Try.ntmps5
    go_wp2_with (go_at_call 16; refine (bytes16 _ _ _ _ _ _ hnm).mono ?_; rintro e w1 ⟨rfl, hw1⟩; subst hw1)
    go_ret
    exact ⟨rfl, Below.refl _ _⟩
end Go.Proofs.Qxb6002380a
