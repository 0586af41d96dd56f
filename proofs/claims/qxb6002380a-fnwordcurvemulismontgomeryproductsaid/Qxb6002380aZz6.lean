import Derived.Test.Qxb6002380aZz5
namespace Go.Proofs.Qxb6002380a
open Go.RowKit

theorem val_up {u : Nat → Nat} {k v : Nat} : ∀ {N : Nat}, k < N → val (up u k v) N + u k * W ^ k = val u N + v * W ^ k
  | 0, h => by omega
  | N + 1, h => by
    rw [val, val]
    by_cases e : N = k
    · subst e
      rw [val_up_ge (Nat.le_refl _), up_same]
      omega
    · have ih := val_up (u := u) (v := v) (N := N) (show k < N by omega)
      rw [up_ne _ e]
      omega

theorem mw_alg {B V Vi U U' T xi yj uj c s hi vy : Nat} (h : U + c * (Vi * V) = T + xi * Vi * vy) (hu : U' + uj * (Vi * V) = U + s * (Vi * V)) (he : s + hi * B = xi * yj + uj + c) :
    U' + hi * (Vi * (V * B)) = T + xi * Vi * (vy + yj * V) := by
  have e2 : (s + hi * B) * (Vi * V) = (xi * yj + uj + c) * (Vi * V) := by rw [he]
  grind

/-- The inner loop of the wide product. -/
def LM (t y : Nat → Nat) (xi i n N j : Nat) (u : Nat → Nat) (c : Nat) : Prop :=
  val u N + c * (W ^ i * W ^ j) = val t N + xi * W ^ i * val y j ∧ (∀ k, i + n ≤ k → u k = 0) ∧ (∀ k, u k < W) ∧ c < W

theorem LM.start {t y : Nat → Nat} {xi i n N : Nat} (ht : ∀ k, t k < W) (hz : ∀ k, i + n ≤ k → t k = 0) : LM t y xi i n N 0 t 0 := ⟨by simp [val], hz, ht, W_pos⟩

theorem LM.step {t y u : Nat → Nat} {xi i n N j c s hi : Nat} (h : LM t y xi i n N j u c) (hj : j < n) (hN : i + j < N) (hs : s < W) (hhi : hi < W) (he : s + hi * W = xi * y j + u (i + j) + c) : LM t y xi i n N (j + 1) (up u (i + j) s) hi := by
  obtain ⟨h1, h2, h3, h4⟩ := h
  refine ⟨?_, fun k hk => ?_, up_lt h3 hs, hhi⟩
  · have hu := val_up (u := u) (v := s) hN
    rw [Nat.pow_add] at hu
    rw [val, Nat.pow_succ]
    exact mw_alg h1 hu he
  · rw [up_ne _ (by omega), h2 k hk]

theorem fin_alg {Vi Vn U U' T xi c vy vx : Nat} (h : U + c * (Vi * Vn) = T + xi * Vi * vy) (hu : U' + 0 * (Vi * Vn) = U + c * (Vi * Vn)) (hT : T = vx * vy) : U' = (vx + xi * Vi) * vy := by
  grind

theorem LM.fin {t x y u : Nat → Nat} {i n N c : Nat} (h : LM t y (x i) i n N n u c) (hN : i + n < N) (hT : val t N = val x i * val y n) : val (up u (i + n) c) N = val x (i + 1) * val y n := by
  obtain ⟨h1, h2, h3, h4⟩ := h
  have hu := val_up (u := u) (v := c) hN
  rw [h2 (i + n) (Nat.le_refl _), Nat.pow_add] at hu
  rw [val]
  exact fin_alg h1 hu hT

/-- A wrapped sum with its carry. -/
theorem add_word (x y : Nat) (hx : x < 18446744073709551616) (hy : y < 18446744073709551616) : ∃ s c : Nat, s < 18446744073709551616 ∧ c ≤ 1 ∧ x + y = c * 18446744073709551616 + s ∧ IntKind.u64.wrap ((x : Int) + (y : Int)) = (s : Int) ∧ ((c = 1 ∧ s < x) ∨ (c = 0 ∧ ¬ s < x)) := by
  rw [IntKind.wrap_u64]
  by_cases h : x + y < 18446744073709551616
  · exact ⟨x + y, 0, by omega, by omega, by omega, by omega, Or.inr ⟨rfl, by omega⟩⟩
  · exact ⟨x + y - 18446744073709551616, 1, by omega, by omega, by omega, by omega, Or.inl ⟨rfl, by omega⟩⟩

/-- The product lies in block S; below it nothing has turned. -/
def PSt (w wr : World) (S N : Nat) (t : Nat → Nat) : Prop :=
  wr.rowIs S 31 N (fun i => .int .u64 (t i : Nat)) ∧ Below S w wr

theorem PSt.set {w wr : World} {S N : Nat} {t : Nat → Nat} (h : PSt w wr S N t) (i v : Nat) : PSt w (wr.setCell ⟨S, i, none⟩ (.int .u64 (v : Nat))) S N (up t i v) := by
  refine ⟨(h.1.set i _).congr fun k _ => ?_, h.2.setCell (p := ⟨S, i, none⟩) (Nat.le_refl S) _⟩
  unfold up
  by_cases e : k = i <;> simp [e]

theorem PSt.drewN {w wr : World} {S N : Nat} {t : Nat → Nat} (h : PSt w wr S N t) (k : Nat) : PSt w (wr.drewN k) S N t := ⟨h.1.of_block rfl, below_drewN h.2 k⟩

set_option maxRecDepth 100000 in
set_option maxHeartbeats 4000000 in
/-- zzMulWide. -/
theorem wide30 (xb xo yb yo n cx cy : Nat) (x y : Nat → Nat) (w : World) (hn : n ≤ 2048) (hn0 : 0 < n) (hx : ∀ k, x k < W) (hy : ∀ k, y k < W) (hxc : Sl w xb xo n x) (hyc : Sl w yb yo n y) :
    Calls Try.prog 30 #[.slice (some ⟨xb, xo, none⟩) n cx, .slice (some ⟨yb, yo, none⟩) n cy] w fun e w' =>
      ∃ g t, e = .returned (.slice (some ⟨g, 0, none⟩) (2 * n : Nat) (2 * n : Nat)) ∧ w.heap.size ≤ g ∧ w'.rowIs g 31 (2 * n) (fun i => .int .u64 (t i : Nat)) ∧ (∀ k, t k < W) ∧ val t (2 * n) = val x n * val y n ∧ Below w.heap.size w w' := by
  have hmk := run_make_row' 45 31 (.int .u64 0) 8 Try.underlying45 info31 rfl .i64 .i64 (2 * n) (by omega) (by omega)
  have hn1 : ((2 * n : Nat) : Int) = 2 * (n : Int) := by omega
  rw [hn1] at hmk
  have hxb := hxc.lt hn0
  have hyb := hyc.lt hn0
  have Hx := hide hx
  have Hy := hide hy
  have Hxc := hide hxc
  have Hyc := hide hyc
  clear hx hy hxc hyc hn1
  obtain ⟨S, hSz⟩ : ∃ S, S = w.heap.size := ⟨_, rfl⟩
  go_enter Try.func30, Try.ntmps30
  go_wp2
  rw [← hSz]
  go_loopw [7] (fun s7 wr => ∃ (i : Nat) (t : Nat → Nat), i ≤ n ∧ s7 = .int .i64 (i : Int) ∧ val t (2 * n) = val x i * val y n ∧ (∀ k, i + n ≤ k → t k = 0) ∧ (∀ k, t k < W) ∧ PSt w wr S (2 * n) t) (fun s7 _ => n - (intOf s7).toNat)
  case atStart =>
    refine ⟨0, fun _ => 0, by omega, by go_num, ?_, fun _ _ => rfl, fun _ => W_pos, ?_, ?_⟩
    · rw [val_zero fun _ _ => rfl]; simp [val]
    · rw [hSz]; exact World.rowIs_made w _ (2 * n) 31
    · rw [hSz]; exact (Below.refl _ _).alloc (Nat.le_refl _) _
  case round =>
    obtain ⟨i, t, hi, rfl, hv, hz, htW, hS⟩ := hrel
    have Hv := hide hv
    have Hz := hide hz
    have HtW := hide htW
    have HS := hide hS
    have HSz := hide hSz
    rw [← hSz] at hxb hyb
    clear hv hz htW hS hSz hmk
    by_cases hin : i < n
    · have j1 : (i : Int) < (n : Int) := by omega
      obtain ⟨xi, hxi⟩ : ∃ xi, xi = x i := ⟨_, rfl⟩
      have hxiW : xi < W := by rw [hxi]; exact Hx.out i
      have Hxi := hide hxi
      clear hxi
      go_wp2
      obtain ⟨wo, hwo⟩ : ∃ wo, wo = wr := ⟨_, rfl⟩
      subst hwo
      go_loopw [8, 9] (fun s8 s9 wr => ∃ (j c : Nat) (u : Nat → Nat), j ≤ n ∧ s8 = .int .u64 (c : Nat) ∧ s9 = .int .i64 (j : Int) ∧ LM t y xi i n (2 * n) j u c ∧ PSt w wr S (2 * n) u) (fun _ s9 _ => n - (intOf s9).toNat)
      case atStart => exact ⟨0, 0, t, by omega, by go_num, by go_num, LM.start HtW.out Hz.out, HS.out⟩
      case round =>
        obtain ⟨j, c, u, hj, rfl, rfl, hM, hSu⟩ := hrel
        have HM := hide hM
        have HSu := hide hSu
        clear hM hSu
        by_cases hjn : j < n
        · have k1 : (j : Int) < (n : Int) := by omega
          have k2 : (i : Int) + (j : Int) < 2 * (n : Int) := by omega
          have cx' : wr.cell? ⟨xb, xo + i, none⟩ = some (.int .u64 (xi : Nat)) := by rw [Hxi.out]; exact cell_below HSu.out.2 hxb (Hxc.out i hin)
          have cy' : wr.cell? ⟨yb, yo + j, none⟩ = some (.int .u64 (y j : Nat)) := cell_below HSu.out.2 hyb (Hyc.out j hjn)
          have cu : wr.cell? ⟨S, i + j, none⟩ = some (.int .u64 (u (i + j) : Nat)) := HSu.out.1.cell (i := i + j) (by omega)
          have fu := HSu.out.1.frozen (i + j)
          obtain ⟨hi', hhi⟩ : ∃ h, h = xi * y j / 18446744073709551616 := ⟨_, rfl⟩
          obtain ⟨lo, hlo⟩ : ∃ h, h = xi * y j % 18446744073709551616 := ⟨_, rfl⟩
          have c42 : ∀ w, Calls Try.prog 42 #[.int .u64 (xi : Nat), .int .u64 (y j : Nat)] w fun e w' => e = .returned (.tuple #[.int .u64 (hi' : Nat), .int .u64 (lo : Nat)]) ∧ w' = w := by
            intro w; rw [hhi, hlo]; exact mul42 xi (y j) hxiW (Hy.out j) w
          have hmul : xi * y j = hi' * W + lo := by
            rw [hhi, hlo]; generalize xi * y j = z; unfold W; omega
          have hloW : lo < 18446744073709551616 := by rw [hlo]; exact Nat.mod_lt _ (by decide)
          clear hhi hlo
          obtain ⟨s1, c1, hs1, hc1, e1, w1', g1⟩ := add_word lo (u (i + j)) hloW (HM.out.2.2.1 _)
          obtain ⟨s2, c2, hs2, hc2, e2, w2', g2⟩ := add_word s1 c hs1 HM.out.2.2.2
          obtain ⟨b1, b2, b3⟩ := mac hxiW (Hy.out j) (HM.out.2.2.1 (i + j)) HM.out.2.2.2 hmul e1 e2
          have HE : Hid (LM t y xi i n (2 * n) (j + 1) (up u (i + j) s2) (hi' + c1 + c2)) := hide (HM.out.step hjn (by omega) hs2 b2 b3)
          have b1' : hi' + c1 < 18446744073709551616 := b1
          have b2' : hi' + c1 + c2 < 18446744073709551616 := b2
          have Hc42 := hide c42
          clear hmul e1 e2 b1 b2 b3 c42
          go_upto_region 10 with (fail)
          go_quiet (exact (Hc42.out _).mono fun _ _ h => ⟨h.1, _, h.2⟩)
          rcases g1 with ⟨rfl, g1⟩ | ⟨rfl, g1⟩
          · have g1' : (s1 : Int) < (lo : Int) := by omega
            rcases g2 with ⟨rfl, g2⟩ | ⟨rfl, g2⟩
            · have g2' : (s2 : Int) < (s1 : Int) := by omega
              go_wp2
              go_roundw
              case rel => exact ⟨j + 1, hi' + 1 + 1, up u (i + j) s2, by omega, by go_num, by go_num, HE.out, (HSu.out.drewN nq).set (i + j) s2⟩
              case measure => simp [intOf]; omega
            · have g2' : ¬ ((s2 : Int) < (s1 : Int)) := by omega
              go_wp2
              go_roundw
              case rel => exact ⟨j + 1, hi' + 1 + 0, up u (i + j) s2, by omega, by go_num, by go_num, HE.out, (HSu.out.drewN nq).set (i + j) s2⟩
              case measure => simp [intOf]; omega
          · have g1' : ¬ ((s1 : Int) < (lo : Int)) := by omega
            rcases g2 with ⟨rfl, g2⟩ | ⟨rfl, g2⟩
            · have g2' : (s2 : Int) < (s1 : Int) := by omega
              go_wp2
              go_roundw
              case rel => exact ⟨j + 1, hi' + 0 + 1, up u (i + j) s2, by omega, by go_num, by go_num, HE.out, (HSu.out.drewN nq).set (i + j) s2⟩
              case measure => simp [intOf]; omega
            · have g2' : ¬ ((s2 : Int) < (s1 : Int)) := by omega
              go_wp2
              go_roundw
              case rel => exact ⟨j + 1, hi' + 0 + 0, up u (i + j) s2, by omega, by go_num, by go_num, HE.out, (HSu.out.drewN nq).set (i + j) s2⟩
              case measure => simp [intOf]; omega
        · have k1 : ¬ ((j : Int) < (n : Int)) := by omega
          have k2 : (i : Int) + (n : Int) < 2 * (n : Int) := by omega
          have HMn : Hid (LM t y xi i n (2 * n) n u c) := hide (by have h := HM.out; rw [show j = n by omega] at h; exact h)
          have cu : wr.cell? ⟨S, i + n, none⟩ = some (.int .u64 (u (i + n) : Nat)) := HSu.out.1.cell (i := i + n) (by omega)
          have fu := HSu.out.1.frozen (i + n)
          have HF : Hid (val (up u (i + n) c) (2 * n) = val x (i + 1) * val y n) := hide (by
            have h := HMn.out
            rw [Hxi.out] at h
            exact h.fin (by omega) Hv.out)
          go_wp2
          go_roundw
          case rel =>
            refine ⟨i + 1, up u (i + n) c, by omega, by go_num, HF.out, fun k hk => ?_, up_lt HM.out.2.2.1 HM.out.2.2.2, HSu.out.set (i + n) c⟩
            rw [up_ne _ (by omega), HM.out.2.1 k (by omega)]
          case measure => simp [intOf]; omega
    · have j1 : ¬ ((i : Int) < (n : Int)) := by omega
      have Hvn : Hid (val t (2 * n) = val x n * val y n) := hide (by have h := Hv.out; rw [show i = n by omega] at h; exact h)
      go_wp2
      go_ret
      exact ⟨S, rfl, by rw [HSz.out]; exact Nat.le_refl _, t, HS.out.1, HtW.out, Hvn.out, HSz.out ▸ HS.out.2⟩
end Go.Proofs.Qxb6002380a
