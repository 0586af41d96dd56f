import Derived.Test.Qxb6002380aZz4
namespace Go.Proofs.Qxb6002380a
open Go.RowKit

/-- The remainder lies in block rb; below it nothing has turned. -/
def MSt (w wr : World) (rb n : Nat) (r : Nat → Nat) : Prop :=
  wr.rowIs rb 31 (n + 1) (fun i => .int .u64 (r i : Nat)) ∧ (∀ k, r k < W) ∧ Below rb w wr

theorem MSt.set {w wr : World} {rb n : Nat} {r : Nat → Nat} (h : MSt w wr rb n r) (i v : Nat) (hv : v < W) : MSt w (wr.setCell ⟨rb, i, none⟩ (.int .u64 (v : Nat))) rb n (up r i v) := by
  refine ⟨(h.1.set i _).congr fun k _ => ?_, up_lt h.2.1 hv, h.2.2.setCell (p := ⟨rb, i, none⟩) (Nat.le_refl rb) _⟩
  unfold up
  by_cases e : k = i <;> simp [e]

theorem MSt.drewN {w wr : World} {rb n : Nat} {r : Nat → Nat} (h : MSt w wr rb n r) (k : Nat) : MSt w (wr.drewN k) rb n r := ⟨h.1.of_block rfl, h.2.1, below_drewN h.2.2 k⟩

theorem half_step {A k P R bit : Nat} (hR : R = A / 2 ^ (k + 1) % P) (hbit : bit = A / 2 ^ k % 2) : (2 * R + bit) % P = A / 2 ^ k % P := by
  have e : A / 2 ^ k = 2 * (A / 2 ^ (k + 1)) + bit := by
    rw [Nat.pow_succ, ← Nat.div_div_eq_div_mul, hbit]; omega
  rw [e, hR]
  conv => rhs; rw [Nat.add_mod, Nat.mul_mod]
  conv => lhs; rw [Nat.add_mod, Nat.mul_mod, Nat.mod_mod]

set_option maxRecDepth 100000 in
set_option maxHeartbeats 4000000 in
/-- zzModBits. -/
theorem mod29 (ab ao pb po m n ca cp : Nat) (a p : Nat → Nat) (w : World) (hm : m ≤ 4096) (hn : n ≤ 4096) (hn0 : 0 < n) (ha : ∀ k, a k < W) (hp : ∀ k, p k < W) (hac : Sl w ab ao m a) (hpc : Sl w pb po n p) (hpos : 0 < val p n) :
    Calls Try.prog 29 #[.slice (some ⟨ab, ao, none⟩) m ca, .slice (some ⟨pb, po, none⟩) n cp] w fun e w' =>
      ∃ g r, e = .returned (.slice (some ⟨g, 0, none⟩) n (n + 1 : Nat)) ∧ w.heap.size ≤ g ∧ w'.rowIs g 31 (n + 1) (fun i => .int .u64 (r i : Nat)) ∧ (∀ k, r k < W) ∧ val r n = val a m % val p n ∧ Below w.heap.size w w' := by
  have hmk := run_make_row' 45 31 (.int .u64 0) 8 Try.underlying45 info31 rfl .i64 .i64 (n + 1) (by omega) (by omega)
  have hn1 : ((n + 1 : Nat) : Int) = (n : Int) + 1 := by omega
  rw [hn1] at hmk
  have hpb := hpc.lt hn0
  have Ha := hide ha
  have Hp := hide hp
  have Hac := hide hac
  have Hpc := hide hpc
  have Hpos := hide hpos
  have HPW : Hid (val p n < W ^ n) := hide (val_lt fun i _ => hp i)
  clear ha hp hac hpc hpos hn1
  obtain ⟨A, hA⟩ : ∃ A, A = val a m := ⟨_, rfl⟩
  obtain ⟨P, hP⟩ : ∃ P, P = val p n := ⟨_, rfl⟩
  have HA := hide hA
  have HP := hide hP
  clear hA hP
  go_enter Try.func29, Try.ntmps29
  obtain ⟨S, hSz⟩ : ∃ S, S = w.heap.size := ⟨_, rfl⟩
  go_wp2
  rw [← hSz]
  go_loopw [7] (fun s7 wr => ∃ (k : Nat) (r : Nat → Nat), k ≤ 64 * m ∧ s7 = .int .i64 ((k : Int) - 1) ∧ val r (n + 1) = A / 2 ^ k % P ∧ MSt w wr S n r) (fun s7 _ => (intOf s7 + 1).toNat)
  case atStart =>
    refine ⟨64 * m, fun _ => 0, by omega, by go_num, ?_, ?_, fun _ => W_pos, ?_⟩
    · rw [val_zero fun _ _ => rfl, HA.out]
      have h1 : val a m < W ^ m := val_lt fun i _ => Ha.out i
      have h2 : W ^ m = 2 ^ (64 * m) := by rw [Nat.pow_mul]; rfl
      rw [← h2, Nat.div_eq_of_lt h1, Nat.zero_mod]
    · rw [hSz]; exact World.rowIs_made w _ (n + 1) 31
    · rw [hSz]; exact (Below.refl _ _).alloc (Nat.le_refl _) _
  case round =>
    obtain ⟨k, r, hk, rfl, hv, hS⟩ := hrel
    have Hv := hide hv
    have HS := hide hS
    have HSz := hide hSz
    rw [← hSz] at hpb
    clear hv hS hSz hmk
    have HRP : Hid (val r (n + 1) < P) := hide (by rw [Hv.out]; exact Nat.mod_lt _ (by rw [HP.out]; exact Hpos.out))
    cases k with
    | zero =>
      have e0 : ((0 : Nat) : Int) - 1 = -1 := by omega
      rw [e0]
      have i1 : (n : Int) ≤ (n : Int) + 1 := by omega
      go_wp2
      go_ret
      have hr0 : r n = 0 := by
        have h1 := HRP.out
        rw [HP.out, val] at h1
        rcases Nat.eq_zero_or_pos (r n) with h | h
        · exact h
        · have h2 : 1 * W ^ n ≤ r n * W ^ n := Nat.mul_le_mul_right _ h
          have := HPW.out
          omega
      refine ⟨S, r, rfl, by rw [HSz.out]; exact Nat.le_refl _, HS.out.1, HS.out.2.1, ?_, HSz.out ▸ HS.out.2.2⟩
      have h1 := Hv.out
      rw [val, hr0, Nat.zero_mul, Nat.add_zero, Nat.pow_zero, Nat.div_one, HA.out, HP.out] at h1
      exact h1
    | succ j =>
      have e0 : ((j + 1 : Nat) : Int) - 1 = (j : Int) := by omega
      rw [e0]
      obtain ⟨q, s, hs, hjq⟩ : ∃ q s : Nat, s < 64 ∧ j = 64 * q + s := ⟨j / 64, j % 64, by omega, by omega⟩
      have hqm : q < m := by omega
      have d1 : (j : Int) / 64 = (q : Int) := by omega
      have d2 : (j : Int) % 64 = (s : Int) := by omega
      have i1 : (q : Int) < (m : Int) := by omega
      have ca' : wr.cell? ⟨ab, ao + q, none⟩ = some (.int .u64 (a q : Nat)) := cell_below HS.out.2.2 (by rw [HSz.out]; exact World.block_lt_of_cell? w _ (Hac.out q hqm)) (Hac.out q hqm)
      obtain ⟨bit, hbit⟩ : ∃ bit, bit = a q / 2 ^ s % 2 := ⟨_, rfl⟩
      have hand : bits .and .u64 ((a q : Int) / 2 ^ s) 1 = (bit : Int) := by
        have e : (a q : Int) / 2 ^ s = ((a q / 2 ^ s : Nat) : Int) := by rw [Int.natCast_ediv, Int.natCast_pow]; rfl
        have hlt : a q / 2 ^ s < 18446744073709551616 := Nat.lt_of_le_of_lt (Nat.div_le_self _ _) (Ha.out q)
        rw [e, hbit]
        revert hlt
        generalize a q / 2 ^ s = t
        intro hlt
        rw [and_one_u64 _ (by omega) (by omega)]
        omega
      have hb1 : bit ≤ 1 := by omega
      have HR : Hid ((2 * val r (n + 1) + bit) % P = A / 2 ^ j % P) := hide (by
        refine half_step Hv.out ?_
        rw [hbit, HA.out, hjq]
        exact (val_bit Ha.out hqm hs).symm)
      clear hjq hbit Hv
      go_wp2
      obtain ⟨wo, hwo⟩ : ∃ wo, wo = wr := ⟨_, rfl⟩
      subst hwo
      clear ca'
      go_loopw [8, 9] (fun s8 s9 wr => ∃ (i c : Nat) (u : Nat → Nat), i ≤ n + 1 ∧ s8 = .int .u64 (c : Nat) ∧ s9 = .int .i64 (i : Int) ∧ L6 r bit i u c ∧ MSt w wr S n u) (fun _ s9 _ => n + 1 - (intOf s9).toNat)
      case atStart => exact ⟨0, bit, r, by omega, by go_num, by go_num, L6.start HS.out.2.1 hb1, HS.out⟩
      case round =>
        obtain ⟨i, c, u, hi, rfl, rfl, h6, hSu⟩ := hrel
        have H6 := hide h6
        have HSu := hide hSu
        clear h6 hSu
        by_cases hin : i ≤ n
        · have j1 : (i : Int) ≤ (n : Int) := by omega
          have j2 : (i : Int) < (n : Int) + 1 := by omega
          have ci : wr.cell? ⟨S, i, none⟩ = some (.int .u64 (u i : Nat)) := HSu.out.1.cell (i := i) (by omega)
          have fi := HSu.out.1.frozen i
          obtain ⟨d, o, hd, ho, he, hsh, hor⟩ := sh_word (u i) c (H6.out.2.2.1 i) H6.out.2.2.2
          have HE : Hid (L6 r bit (i + 1) (up u i d) o) := hide (H6.out.step hd ho (by rw [← H6.out.2.1 i (Nat.le_refl i)]; exact he))
          clear he
          go_wp2
          go_roundw
          case rel => exact ⟨i + 1, o, up u i d, by omega, by go_num, by go_num, HE.out, HSu.out.set i d hd⟩
          case measure => simp [intOf]; omega
        · have j1 : ¬ ((i : Int) ≤ (n : Int)) := by omega
          have Hu : Hid (val u (n + 1) = 2 * val r (n + 1) + bit) := hide (by
            have h := H6.out
            rw [show i = n + 1 by omega] at h
            exact h.last HRP.out (by rw [HP.out]; exact HPW.out) hb1)
          have HSp : Hid (Sl wr pb po n p) := hide fun i hi => cell_below HSu.out.2.2 hpb (Hpc.out i hi)
          go_wp2_with fail
          refine (less40 S 0 pb po n (n + 1) cp u p wr hn HSu.out.2.1 Hp.out (Sl.of_row HSu.out.1) HSp.out (Nat.le_refl _)).mono ?_
          rintro e w1 ⟨rfl, mm, hw1⟩
          have hw1 := hw1.symm
          subst hw1
          by_cases hless : val u (n + 1) < val p n
          · have hdec : decide (val u (n + 1) < val p n) = true := decide_eq_true hless
            rw [hdec]
            have HV : Hid (val u (n + 1) = A / 2 ^ j % P) := hide (by rw [← HR.out, ← Hu.out, Nat.mod_eq_of_lt]; rw [HP.out]; exact hless)
            clear hless hdec
            go_wp2
            go_roundw
            case rel => exact ⟨j, u, by omega, by go_num, HV.out, HSu.out.drewN mm⟩
            case measure => simp [intOf]
          · have hdec : decide (val u (n + 1) < val p n) = false := decide_eq_false hless
            rw [hdec]
            have Hle : Hid (val p n ≤ val u (n + 1)) := hide (by omega)
            clear hless hdec
            go_wp2_with fail
            refine (sub41 S pb po n cp u p (wr.drewN mm) hn HSu.out.2.1 Hp.out (HSu.out.drewN mm).1 HSp.out (by omega) Hle.out).mono ?_
            rintro e w2 ⟨v, rfl, hvr, hvW, hvv, -, hvb⟩
            have HS2 : Hid (MSt w w2 S n v) := hide ⟨hvr, hvW, (HSu.out.drewN mm).2.2.trans hvb⟩
            have HV : Hid (val v (n + 1) = A / 2 ^ j % P) := hide (by
              rw [← HR.out, ← Hu.out]
              have h1 := HRP.out
              have h2 := Hu.out
              have h3 := Hle.out
              have h4 := HP.out
              have e1 : val u (n + 1) = val v (n + 1) + P := by omega
              rw [e1, Nat.add_mod_right, Nat.mod_eq_of_lt]
              omega)
            clear hvr hvW hvv hvb
            go_wp2
            go_roundw
            case rel => exact ⟨j, v, by omega, by go_num, HV.out, HS2.out⟩
            case measure => simp [intOf]
end Go.Proofs.Qxb6002380a
