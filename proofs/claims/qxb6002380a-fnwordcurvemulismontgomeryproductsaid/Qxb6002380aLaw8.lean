import Derived.Test.Qxb6002380aZz3
import Derived.Test.Qxb6002380aZz6
import Derived.Deep.RegionLaw
import Derived.Laws.CopyOwn
namespace Go.Proofs.Qxb6002380a
open Go.RowKit

theorem val_inj {a b : Nat → Nat} (ha : ∀ k, a k < W) (hb : ∀ k, b k < W) : ∀ {n : Nat}, val a n = val b n → ∀ i, i < n → a i = b i
  | 0, _, i, hi => by omega
  | n + 1, h, i, hi => by
    rw [val, val] at h
    have h1 : val a n < W ^ n := val_lt fun i _ => ha i
    have h2 : val b n < W ^ n := val_lt fun i _ => hb i
    have e1 : a n = b n := by
      rcases Nat.lt_trichotomy (a n) (b n) with h3 | h3 | h3
      · have h4 : (a n + 1) * W ^ n ≤ b n * W ^ n := Nat.mul_le_mul_right _ h3
        rw [Nat.add_mul] at h4
        omega
      · exact h3
      · have h4 : (b n + 1) * W ^ n ≤ a n * W ^ n := Nat.mul_le_mul_right _ h3
        rw [Nat.add_mul] at h4
        omega
    by_cases e : i = n
    · rw [e]; exact e1
    · rw [e1] at h
      exact val_inj ha hb (n := n) (by omega) i (by omega)

theorem und45 : Try.prog.underlying 45 = some (.slice 31) := by kernel_rfl

theorem val_shift (f : Nat → Nat) (n : Nat) : ∀ m, val (fun i => if i < n then 0 else f (i - n)) (n + m) = val f m * W ^ n
  | 0 => by
    rw [Nat.add_zero, val_zero fun i hi => by simp [hi]]
    simp [val]
  | m + 1 => by
    rw [← Nat.add_assoc, val, val_shift f n m, val, if_neg (by omega), Nat.add_sub_cancel_left, Nat.pow_add, Nat.add_mul, Nat.mul_comm (W ^ n), Nat.mul_assoc]

theorem zrow {v : World} {g n : Nat} {zf r : Nat → Nat} {c : Array Value} {cs : List Value} (hzf : zf = fun i => if i < n then 0 else r (i - n)) (hcl : c.toList.length = 2 * n) (hcc : ∀ i, i < 2 * n → c[i]? = some (.int .u64 0))
    (hcs : cs.length = n) (hcg : ∀ j, j < n → cs[j]? = some (.int .u64 (r j : Nat))) (hv : v.heap[g]? = some (.cells (Go.splice c.toList n cs).toArray 31 (0, 0))) : v.rowIs g 31 (2 * n) (fun i => .int .u64 (zf i : Nat)) := by
  refine ⟨_, hv, ?_, fun i hi => ?_⟩
  · rw [List.size_toArray, length_splice _ _ _ (by rw [hcs, hcl]; omega), hcl]
  · rw [List.getElem?_toArray]
    unfold Go.splice
    rw [hzf]
    simp only [List.getElem?_append, List.length_take, hcl, hcs, List.getElem?_take, List.getElem?_drop, Array.getElem?_toList]
    have m0 : min n (2 * n) = n := by omega
    rw [m0]
    by_cases h1 : i < n
    · simp [h1, hcc i hi]
    · simp [h1, show i - n < n by omega, hcg (i - n) (by omega)]

/-- The three boxes. -/
def box3 (w : World) (p x y : Nat → Nat) : World := ((w.alloc (.cells (nine p) 43 (0, 0))).alloc (.cells (nine x) 43 (0, 0))).alloc (.cells (nine y) 43 (0, 0))

theorem box3_facts {w w' : World} {p x y : Nat → Nat} (h : w' = box3 w p x y) :
    w'.rowIs w.heap.size 43 9 (fun i => .int .u64 (p i : Nat)) ∧ w'.rowIs (w.heap.size + 1) 43 9 (fun i => .int .u64 (x i : Nat)) ∧ w'.rowIs (w.heap.size + 1 + 1) 43 9 (fun i => .int .u64 (y i : Nat)) ∧ Below w.heap.size w w' := by
  have s1 : (w.alloc (.cells (nine p) 43 (0, 0))).heap.size = w.heap.size + 1 := by simp
  have s2 : ((w.alloc (.cells (nine p) 43 (0, 0))).alloc (.cells (nine x) 43 (0, 0))).heap.size = w.heap.size + 1 + 1 := by simp
  have h2 := heap_alloc_new ((w.alloc (.cells (nine p) 43 (0, 0))).alloc (.cells (nine x) 43 (0, 0))) (.cells (nine y) 43 (0, 0))
  have h1 := heap_alloc_new (w.alloc (.cells (nine p) 43 (0, 0))) (.cells (nine x) 43 (0, 0))
  have h0 := heap_alloc_new w (.cells (nine p) 43 (0, 0))
  rw [s2] at h2
  rw [s1] at h1
  subst h
  exact ⟨⟨_, (Below.heap_alloc _ _ _ (by omega)).trans ((Below.heap_alloc _ _ _ (by omega)).trans h0), nine_size p, nine_get p⟩, ⟨_, (Below.heap_alloc _ _ _ (by omega)).trans h1, nine_size x, nine_get x⟩, ⟨_, h2, nine_size y, nine_get y⟩,
    (((Below.refl _ w).alloc (Nat.le_refl _) _).alloc (by omega) _).alloc (by omega) _⟩

set_option maxRecDepth 1000000 in
set_option maxHeartbeats 8000000 in
/-- FnWordCurveMulIsMontgomeryProduct. -/
theorem law8 (p x y : Nat → Nat) (hp : ∀ k, p k < W) (hx : ∀ k, x k < W) (hy : ∀ k, y k < W) (w : World) :
    Calls Try.prog 8 #[.agg (nine p), .agg (nine x), .agg (nine y)] w fun e w' => e = .returned (.bool true) ∧ Below w.heap.size w w' := by
  have Hp := hide hp
  have Hx := hide hx
  have Hy := hide hy
  clear hp hx hy
  obtain ⟨S, hS⟩ : ∃ S, S = w.heap.size := ⟨_, rfl⟩
  go_enter Try.func8, Try.ntmps8
  go_upto_region 2 with (fail)
  rw [← hS]
  obtain ⟨w1, hw1⟩ : ∃ w1, w1 = box3 w p x y := ⟨_, rfl⟩
  have hw1' : w1 = ((w.alloc (.cells (nine p) 43 (0, 0))).alloc (.cells (nine x) 43 (0, 0))).alloc (.cells (nine y) 43 (0, 0)) := hw1
  rw [← hw1']
  obtain ⟨f1, f2, f3, f4⟩ := box3_facts hw1
  rw [← hS] at f1 f2 f3 f4
  have HP1 := hide f1
  have HX1 := hide f2
  have HY1 := hide f3
  have HB1 := hide f4
  have HS := hide hS
  clear f1 f2 f3 f4 hw1 hw1' hS
  go_wp2
  go_loopw [7, 8] (fun s7 s8 wr => ∃ k : Nat, k ≤ 9 ∧ s7 = .int .i64 0 ∧ s8 = .int .i64 ((k : Int) - 1) ∧ (∀ i, k ≤ i → i < 9 → p i = 0) ∧ wr = w1) (fun _ s8 _ => (intOf s8 + 1).toNat)
  case atStart => exact ⟨9, by omega, by go_num, by go_num, fun i h1 h2 => by omega, rfl⟩
  case round =>
    obtain ⟨k, hk, rfl, rfl, hz, hw⟩ := hrel
    have hw := hw.symm
    subst hw
    have Hz := hide hz
    clear hz
    cases k with
    | zero =>
      have e0 : ((0 : Nat) : Int) - 1 = -1 := by omega
      rw [e0]
      go_wp2
      go_ret
      exact ⟨rfl, by rw [← HS.out]; exact HB1.out⟩
    | succ j =>
      have e0 : ((j + 1 : Nat) : Int) - 1 = (j : Int) := by omega
      rw [e0]
      have j9 : (j : Int) < 9 := by omega
      have cj : w1.cell? ⟨S, j, none⟩ = some (.int .u64 (p j : Nat)) := HP1.out.cell (i := j) (by omega)
      by_cases hpj : p j = 0
      · have hpj' : ((p j : Int) != 0) = false := by rw [hpj]; rfl
        have Hpj := hide hpj
        clear hpj
        go_wp2
        go_roundw
        case rel =>
          refine ⟨j, by omega, by go_num, by go_num, fun i h1 h2 => ?_, by trivial⟩
          by_cases e : i = j
          · rw [e]; exact Hpj.out
          · exact Hz.out i (by omega) h2
        case measure => simp [intOf]
      · have hpj' : ((p j : Int) != 0) = true := by rw [bne_iff_ne]; omega
        have Hpj := hide hpj
        have c0 : w1.cell? ⟨S, 0, none⟩ = some (.int .u64 (p 0 : Nat)) := HP1.out.cell (i := 0) (by omega)
        clear hpj
        have hj0 : ((j : Int) + 1 == 0) = false := by rw [beq_eq_false_iff_ne]; omega
        have hp0W : p 0 < 18446744073709551616 := Hp.out 0
        by_cases hodd : p 0 % 2 = 0
        · have hand : bits .and .u64 ((p 0 : Nat) : Int) 1 = 0 := by rw [and_one_u64 _ (by omega) (by omega)]; omega
          go_wp2
          go_ret
          exact ⟨rfl, by rw [← HS.out]; exact HB1.out⟩
        · have hand : bits .and .u64 ((p 0 : Nat) : Int) 1 = 1 := by rw [and_one_u64 _ (by omega) (by omega)]; omega
          have Hodd : Hid (p 0 % 2 = 1) := hide (by omega)
          obtain ⟨n, hn⟩ : ∃ n : Nat, n = j + 1 := ⟨_, rfl⟩
          have hjn : (j : Int) + 1 = (n : Int) := by omega
          have hn1 : 1 ≤ n := by omega
          have hn9 : n ≤ 9 := by omega
          have Htop : Hid (p (n - 1) ≠ 0) := hide (by rw [hn, Nat.add_sub_cancel]; exact Hpj.out)
          have Hpz : Hid (∀ i, n ≤ i → i < 9 → p i = 0) := hide fun i h1 h2 => Hz.out i (by omega) h2
          have Hn := hide hn
          have hn0' : ((n : Int) == 0) = false := by rw [beq_eq_false_iff_ne]; omega
          clear hodd hn hp0W Hz Hpj
          go_upto_region 10 with (fail)
          clear hjn hj0 hand hn0' cj c0 hpj' j9
          go_wp2
          have i9 : (n : Int) ≤ 9 := by omega
          have i0 : (0 : Int) ≤ (n : Int) := by omega
          go_loopw [9] (fun s9 wr => ∃ k : Nat, n ≤ k ∧ k ≤ 9 ∧ s9 = .int .i64 (k : Int) ∧ (∀ i, n ≤ i → i < k → x i = 0 ∧ y i = 0) ∧ wr = w1) (fun s9 _ => 9 - (intOf s9).toNat)
          case atStart => exact ⟨n, by omega, by omega, by go_num, fun i h1 h2 => by omega, rfl⟩
          case round =>
            obtain ⟨k, hk1, hk2, rfl, hz, hw⟩ := hrel
            have hw := hw.symm
            subst hw
            have Hz := hide hz
            clear hz
            by_cases hk9 : k < 9
            · have k9 : (k : Int) < 9 := by omega
              have cx : w1.cell? ⟨S + 1, k, none⟩ = some (.int .u64 (x k : Nat)) := HX1.out.cell (i := k) (by omega)
              have cy : w1.cell? ⟨S + 1 + 1, k, none⟩ = some (.int .u64 (y k : Nat)) := HY1.out.cell (i := k) (by omega)
              by_cases hxk : x k = 0
              · have hxk' : ((x k : Int) != 0) = false := by rw [hxk]; rfl
                by_cases hyk : y k = 0
                · have hyk' : ((y k : Int) != 0) = false := by rw [hyk]; rfl
                  have Hxy := hide (And.intro hxk hyk)
                  clear hxk hyk
                  go_wp2
                  go_roundw
                  case rel =>
                    refine ⟨k + 1, by omega, by omega, by go_num, fun i h1 h2 => ?_, by trivial⟩
                    by_cases e : i = k
                    · rw [e]; exact Hxy.out
                    · exact Hz.out i h1 (by omega)
                  case measure => simp [intOf]; omega
                · have hyk' : ((y k : Int) != 0) = true := by rw [bne_iff_ne]; omega
                  clear hxk hyk
                  go_wp2
                  go_ret
                  exact ⟨rfl, by rw [← HS.out]; exact HB1.out⟩
              · have hxk' : ((x k : Int) != 0) = true := by rw [bne_iff_ne]; omega
                clear hxk
                go_wp2
                go_ret
                exact ⟨rfl, by rw [← HS.out]; exact HB1.out⟩
            · have k9 : ¬ ((k : Int) < 9) := by omega
              have Hxz : Hid (∀ i, n ≤ i → i < 9 → x i = 0) := hide fun i h1 h2 => (Hz.out i h1 (by omega)).1
              have Hyz : Hid (∀ i, n ≤ i → i < 9 → y i = 0) := hide fun i h1 h2 => (Hz.out i h1 (by omega)).2
              clear Hz
              obtain ⟨b, hb⟩ : ∃ b, b = decide (val y n < val p n) := ⟨_, rfl⟩
              have c23 : ∀ k, Calls Try.prog 23 #[.slice (some ⟨S + 1 + 1, 0, none⟩) n 9, .slice (some ⟨S, 0, none⟩) n 9] (w1.drewN k) fun e w' => e = .returned (.bool b) ∧ ∃ m, w' = (w1.drewN k).drewN m := by
                intro k; rw [hb]; exact less23 (S + 1 + 1) 0 S 0 n 9 9 y p (w1.drewN k) (by omega) Hy.out Hp.out ((Sl.of_row HY1.out).le hn9) ((Sl.of_row HP1.out).le hn9)
              have Hc23 := hide c23
              have Hb := hide hb
              clear c23 hb
              go_upto_region 15 with (fail)
              cases b with
              | false =>
                go_quiet (exact Calls.quiet_of (Hc23.out _))
                go_wp2
                go_ret
                exact ⟨rfl, by rw [← HS.out]; exact below_drewN HB1.out _⟩
              | true =>
                go_quiet (exact Calls.quiet_of (Hc23.out _))
                have Hylt : Hid (val y n < val p n) := hide (of_decide_eq_true Hb.out.symm)
                clear Hb Hc23
                go_upto_region 17 with (fail)
                obtain ⟨w2, hw2⟩ : ∃ w2, w2 = w1.drewN nq := ⟨_, rfl⟩
                rw [← hw2]
                have HP2 : Hid (w2.rowIs S 43 9 (fun i => .int .u64 (p i : Nat))) := hide (by rw [hw2]; exact HP1.out.of_block rfl)
                have HX2 : Hid (w2.rowIs (S + 1) 43 9 (fun i => .int .u64 (x i : Nat))) := hide (by rw [hw2]; exact HX1.out.of_block rfl)
                have HY2 : Hid (w2.rowIs (S + 1 + 1) 43 9 (fun i => .int .u64 (y i : Nat))) := hide (by rw [hw2]; exact HY1.out.of_block rfl)
                have HB2 : Hid (Below S w w2) := hide (by rw [hw2]; exact below_drewN HB1.out _)
                clear hw2 HP1 HX1 HY1 HB1
                go_step
                go_wp2_with fail
                refine (to25 S 0 9 9 p w2 (by omega) (by omega) (Sl.of_row HP2.out)).mono ?_
                rintro e w3 ⟨g1, rfl, hg1, hr1, hb3⟩
                have HG3 := hide (Sl.of_row hr1)
                have HP3 := hide (rowIs_below HP2.out hb3)
                have HX3 := hide (rowIs_below HX2.out hb3)
                have HY3 := hide (rowIs_below HY2.out hb3)
                have hsz2 : S ≤ w2.heap.size := by have := HB2.out.size; have := HS.out; omega
                have HB3 : Hid (Below S w w3) := hide (HB2.out.trans (hb3.mono hsz2))
                have hsz3 : S ≤ w3.heap.size := Nat.le_trans hsz2 hb3.size
                clear hr1 hb3 HP2 HX2 HY2 HB2 hsz2 hg1
                go_wp2_with fail
                refine (new24 g1 0 9 n 9 p w3 (by omega) (by omega) hn9 hn9 HG3.out Htop.out Hpz.out Hp.out Hodd.out).mono ?_
                rintro e w4 ⟨wb, q, rfl, hwb, hr, hq, hq9, hinv, hb4⟩
                have HW4 := hide hr
                have Hq := hide hq
                have Hq9 := hide hq9
                have Hinv := hide hinv
                have HP4 := hide (rowIs_below HP3.out hb4)
                have HX4 := hide (rowIs_below HX3.out hb4)
                have HY4 := hide (rowIs_below HY3.out hb4)
                have HB4 : Hid (Below S w w4) := hide (HB3.out.trans (hb4.mono hsz3))
                have hsz4 : S ≤ w4.heap.size := Nat.le_trans hsz3 hb4.size
                clear hr hq hq9 hinv hb4 hwb HG3 HP3 HX3 HY3 HB3 hsz3
                have Hvq : Hid (val q n = val p n) := hide (val_congr fun i hi => by rw [Hq9.out i (by omega)]; simp [pad, hi])
                have Hlt : Hid (val x n * val y n < val q n * W ^ n) := hide (by
                  have h1 : val x n < W ^ n := val_lt fun i _ => Hx.out i
                  have h2 := Hylt.out
                  rw [← Hvq.out] at h2
                  have h3 : val x n * val y n ≤ W ^ n * val y n := Nat.mul_le_mul_right _ (Nat.le_of_lt h1)
                  have h4 : W ^ n * val y n < W ^ n * val q n := Nat.mul_lt_mul_of_pos_left h2 (Wp_pos n)
                  rw [Nat.mul_comm (val q n)]
                  omega)
                go_upto_region 18 with (fail)
                have t1 := hide (to25 (S + 1) 0 9 9 x w4.drew (by omega) (by omega) (Sl.of_row HX4.out.drew))
                go_region_held3 (fun _ => True) (trivial)
                  (first
                    | (go_at_call 25; refine t1.out.mono ?_; clear t1; rintro e w5 ⟨g5, rfl, hg5, hr5, hb5⟩; have HA5 := hide (And.intro hr5 hb5); clear hr5 hb5)
                    | (go_at_call 25; refine (to25 (S + 1 + 1) 0 9 9 y w5 (by omega) (by omega) (Sl.of_row (rowIs_below HY4.out.drew HA5.out.2))).mono ?_; rintro e w6 ⟨g6, rfl, hg6, hr6, hb6⟩; have HA6 := hide (And.intro hr6 hb6); clear hr6 hb6)
                    | (go_at_call 27; refine (zmul27 wb g5 0 g6 0 n 9 9 q x y w6 hn1 hn9 Hq.out Hx.out Hy.out (rowIs_below (rowIs_below HW4.out.drew HA5.out.2) HA6.out.2) ((Sl.of_row HA5.out.1).below HA6.out.2) (Sl.of_row HA6.out.1) Hinv.out Hlt.out).mono ?_; rintro e w7 ⟨g7, r7, rfl, hg7, hr7, hmul, hb7⟩; have HA7 := hide (And.intro hr7 (And.intro hmul hb7)); clear hr7 hmul hb7)
                    | (go_at_call 26; refine (from26 g7 0 9 9 r7 w7 (by omega) (by omega) (Sl.of_row HA7.out.1)).mono ?_; rintro e w8 ⟨g8, rfl, hg8, hr8, hb8⟩; have HA8 := hide (And.intro hr8 hb8); clear hr8 hb8))
                have B48 : Below w4.heap.size w4 w8 := by
                  have b5 : Below w4.heap.size w4 w5 := (Below.refl _ w4).drew.trans HA5.out.2
                  have b6 : Below w4.heap.size w4 w6 := b5.trans (HA6.out.2.mono b5.size)
                  have b7 : Below w4.heap.size w4 w7 := b6.trans (HA7.out.2.2.mono b6.size)
                  exact b7.trans (HA8.out.2.mono b7.size)
                have HP8 := hide (rowIs_below HP4.out B48)
                have HX8 := hide (rowIs_below HX4.out B48)
                have HY8 := hide (rowIs_below HY4.out B48)
                have HB8 : Hid (Below S w w8) := hide (HB4.out.trans (B48.mono hsz4))
                have hsz8 : S ≤ w8.heap.size := Nat.le_trans hsz4 B48.size
                have HZ8 := hide HA8.out.1
                have Hm := hide HA7.out.2.1
                clear B48 HA5 HA6 HA7 HA8 HP4 HX4 HY4 HB4 HW4 Hinv hsz4 Hlt hg5 hg6 hg7 hg8
                have k0 : ¬ ((9 : Int) < (n : Int)) := by omega
                go_wp2
                go_loopw [12] (fun s12 wr => ∃ k : Nat, n ≤ k ∧ k ≤ 9 ∧ s12 = .int .i64 (k : Int) ∧ wr = w8) (fun s12 _ => 9 - (intOf s12).toNat)
                case atStart => exact ⟨n, by omega, by omega, by go_num, rfl⟩
                case round =>
                  obtain ⟨k3, hk31, hk32, rfl, hw⟩ := hrel
                  have hw := hw.symm
                  subst hw
                  by_cases hk39 : k3 < 9
                  · have k9' : (k3 : Int) < 9 := by omega
                    have cz : w8.cell? ⟨g8, k3, none⟩ = some (.int .u64 0) := by
                      have h : w8.cell? ⟨g8, k3, none⟩ = some (.int .u64 (r7 k3 : Nat)) := HZ8.out.cell (i := k3) (by omega)
                      rw [h, Hm.out.2.1 k3 hk31]; rfl
                    go_wp2
                    go_roundw
                    case rel => exact ⟨k3 + 1, by omega, by omega, by go_num, by trivial⟩
                    case measure => simp [intOf]; omega
                  · have k9' : ¬ ((k3 : Int) < 9) := by omega
                    have c23 : ∀ k, Calls Try.prog 23 #[.slice (some ⟨g8, 0, none⟩) n 9, .slice (some ⟨S, 0, none⟩) n 9] (w8.drewN k) fun e w' => e = .returned (.bool true) ∧ ∃ m, w' = (w8.drewN k).drewN m := by
                      intro k
                      have h := less23 g8 0 S 0 n 9 9 r7 p (w8.drewN k) (by omega) Hm.out.1 Hp.out ((Sl.of_row HZ8.out).le hn9) ((Sl.of_row HP8.out).le hn9)
                      have e : decide (val r7 n < val p n) = true := decide_eq_true (by rw [← Hvq.out]; exact Hm.out.2.2.1)
                      rw [e] at h
                      exact h
                    have Hc23 := hide c23
                    clear c23
                    go_upto_region 26 with (fail)
                    go_quiet (exact Calls.quiet_of (Hc23.out _))
                    clear Hc23
                    have hmk := run_make_row' 45 31 (.int .u64 0) 8 Try.underlying45 info31 rfl .i64 .i64 (2 * n) (by omega) (by omega)
                    have hn2 : ((2 * n : Nat) : Int) = 2 * (n : Int) := by omega
                    rw [hn2] at hmk
                    go_upto_region 29 with (fail)
                    obtain ⟨g9, hg9⟩ : ∃ g9, g9 = w8.heap.size := ⟨_, rfl⟩
                    obtain ⟨w9, hw9⟩ : ∃ w9, w9 = (w8.drewN nq).alloc (.cells (madeCells #[.int .u64 0] (2 * n)) 31 (0, 0)) := ⟨_, rfl⟩
                    rw [← hw9, ← hg9]
                    have B89 : Below w8.heap.size w8 w9 := by rw [hw9]; exact (below_drewN (Below.refl _ w8) _).alloc (Nat.le_refl _) _
                    have HP9 := hide (rowIs_below HP8.out B89)
                    have HX9 := hide (rowIs_below HX8.out B89)
                    have HY9 := hide (rowIs_below HY8.out B89)
                    have HZ9 := hide (rowIs_below HZ8.out B89)
                    have HB9 : Hid (Below S w w9) := hide (HB8.out.trans (B89.mono hsz8))
                    have HR9 : Hid (w9.rowIs g9 31 (2 * n) (fun _ => .int .u64 0)) := hide (by rw [hw9, hg9]; exact World.rowIs_made (w8.drewN nq) _ (2 * n) 31)
                    have hS9 : S ≤ g9 := by rw [hg9]; exact hsz8
                    have hg98 : g8 ≠ g9 := by rw [hg9]; exact Nat.ne_of_lt HZ8.out.lt
                    have hSg9 : S < g9 := by rw [hg9]; exact HP8.out.lt
                    have hSg9' : S + 1 < g9 := by rw [hg9]; exact HX8.out.lt
                    have hSg9'' : S + 1 + 1 < g9 := by rw [hg9]; exact HY8.out.lt
                    clear B89 hw9 hg9 HP8 HX8 HY8 HZ8 HB8 hmk hn2 hsz8
                    obtain ⟨c9, hc9, hcs9, hcc9⟩ := HR9.out
                    have Hc9 : Hid (w9.drew.heap[g9]? = some (.cells c9.toList.toArray 31 (0, 0))) := hide (by rw [Array.toArray_toList]; exact hc9)
                    have Hcc9 := hide hcc9
                    have hcl : c9.toList.length = 2 * n := by rw [Array.length_toList]; exact hcs9
                    clear hc9 hcc9 hcs9 HR9
                    obtain ⟨cs, hcsl, hcsg⟩ : ∃ cs : List Value, cs.length = n ∧ ∀ j, j < n → cs[j]? = some (.int .u64 (r7 j : Nat)) := ⟨(List.range n).map fun j => .int .u64 (r7 j : Nat), by simp, fun j hj => by simp [hj]⟩
                    have Hcsg := hide hcsg
                    have Hcl := hide hcl
                    have Hcsl := hide hcsl
                    clear hcsg hcl hcsl
                    have hi1 : (n : Int) ≤ 2 * (n : Int) := by omega
                    have hi2 : (n : Int) ≤ 9 := by omega
                    have h2n : ¬ (2 * n = n) := by omega
                    have h2s : 2 * n - n = n := by omega
                    have Hmin : Hid (cs.length = Nat.min n n) := hide (by rw [Hcsl.out]; exact (Nat.min_self n).symm)
                    have Hpos : Hid (0 < cs.length → some (⟨g9, n, none⟩ : Addr) = some ⟨g9, n, none⟩ ∧ ∃ ad : Addr, some (⟨g8, 0, none⟩ : Addr) = some ad ∧ ∀ j v, cs[j]? = some v → w9.drew.cell? (ad.add j) = some v) := hide (by
                      intro _
                      refine ⟨rfl, ⟨g8, 0, none⟩, rfl, fun j v hv => ?_⟩
                      have hjn : j < n := by
                        rcases Nat.lt_or_ge j n with h | h
                        · exact h
                        · rw [List.getElem?_eq_none (by rw [Hcsl.out]; exact h)] at hv; cases hv
                      rw [Hcsg.out j hjn] at hv
                      cases hv
                      have e : (⟨g8, 0, none⟩ : Addr).add j = ⟨g8, j, none⟩ := by unfold Addr.add; split <;> simp_all
                      rw [e]
                      exact HZ9.out.drew.cell (i := j) (by omega))
                    have Hfit : Hid (n + cs.length ≤ c9.toList.length) := hide (by rw [Hcsl.out, Hcl.out]; omega)
                    have Hone : Hid (∀ v ∈ cs, v.oneCell' = true) := hide (by
                      intro v hv
                      obtain ⟨j, hj⟩ := List.getElem?_of_mem hv
                      have hjn : j < n := by
                        rcases Nat.lt_or_ge j n with h | h
                        · exact h
                        · rw [List.getElem?_eq_none (by rw [Hcsl.out]; exact h)] at hj; cases hj
                      rw [Hcsg.out j hjn] at hj
                      cases hj
                      rfl)
                    go_region_law (refine step_copy_splice rfl (.tmp 91) (.tmp 94) 45 45 rfl 31 und45 (by kernel_rfl) (some ⟨g9, n, none⟩) (some ⟨g8, 0, none⟩) n n n 9 (by simp [Act.eval, Act.put]) (by simp [Act.eval, Act.put]) g9 n c9.toList 31 Hc9.out cs Hmin.out Hpos.out Hfit.out Hone.out g9 w9 ((Below.refl g9 w9).drew) (Nat.le_refl _) ?_; intro v1 hv1 hb1)
                    obtain ⟨zf, hzf⟩ : ∃ zf : Nat → Nat, zf = fun i => if i < n then 0 else r7 (i - n) := ⟨_, rfl⟩
                    have HR1 : Hid (v1.rowIs g9 31 (2 * n) (fun i => .int .u64 (zf i : Nat))) := hide (zrow hzf Hcl.out Hcc9.out Hcsl.out Hcsg.out hv1.out)
                    have HzfW : Hid (∀ k, zf k < W) := hide (by intro k; rw [hzf]; dsimp only; split; exact W_pos; exact Hm.out.1 _)
                    have Hzfv : Hid (val zf (2 * n) = val r7 n * W ^ n) := hide (by rw [hzf, Nat.two_mul]; exact val_shift r7 n n)
                    have HP1 : Hid (v1.rowIs S 43 9 (fun i => .int .u64 (p i : Nat))) := hide (HP9.out.of_block (hb1.block S hSg9))
                    have HX1 : Hid (v1.rowIs (S + 1) 43 9 (fun i => .int .u64 (x i : Nat))) := hide (HX9.out.of_block (hb1.block (S + 1) hSg9'))
                    have HY1 : Hid (v1.rowIs (S + 1 + 1) 43 9 (fun i => .int .u64 (y i : Nat))) := hide (HY9.out.of_block (hb1.block (S + 1 + 1) hSg9''))
                    have HB1 : Hid (Below S w v1) := hide (HB9.out.trans (hb1.mono hS9))
                    have hsz1 : S ≤ v1.heap.size := by have := HR1.out.lt; omega
                    clear hzf hv1 hb1 Hc9 Hcc9 Hcl Hcsl Hcsg Hmin Hpos Hfit Hone HP9 HX9 HY9 HZ9 HB9 h2n h2s
                    have Hppos : Hid (0 < val p n) := hide (by have := Hylt.out; omega)
                    go_upto_region 30 with (fail)
                    have t30 := hide (wide30 (S + 1) 0 (S + 1 + 1) 0 n 9 9 x y v1.drew (by omega) (by omega) Hx.out Hy.out ((Sl.of_row HX1.out.drew).le hn9) ((Sl.of_row HY1.out.drew).le hn9))
                    have tok : True := trivial
                    go_region_held3 (fun _ => True) (trivial)
                      (first
                        | (go_at_call 30; refine t30.out.mono ?_; clear t30; rintro e v2 ⟨ga, ta, rfl, hga, hra, htW, htv, hb2⟩; have HA2 := hide (And.intro hra (And.intro htW (And.intro htv hb2))); clear hra htW htv hb2)
                        | (go_at_call 29; clear tok; refine (mod29 ga 0 S 0 (2 * n) n (2 * n) 9 ta p v2 (by omega) (by omega) (by omega) HA2.out.2.1 Hp.out (Sl.of_row HA2.out.1) (((Sl.of_row HP1.out.drew).le hn9).below HA2.out.2.2.2) Hppos.out).mono ?_; rintro e v3 ⟨gb, rb, rfl, hgb, hrb, hbW, hbv, hb3⟩; have HA3 := hide (And.intro hrb (And.intro hbW (And.intro hbv hb3))); clear hrb hbW hbv hb3)
                        | (go_at_call 29; refine (mod29 g9 0 S 0 (2 * n) n (2 * n) 9 zf p v3 (by omega) (by omega) (by omega) HzfW.out Hp.out (((Sl.of_row HR1.out.drew).below HA2.out.2.2.2).below HA3.out.2.2.2) ((((Sl.of_row HP1.out.drew).le hn9).below HA2.out.2.2.2).below HA3.out.2.2.2) Hppos.out).mono ?_; rintro e v4 ⟨gc, rc, rfl, hgc, hrc, hcW, hcv, hb4⟩; have HA4 := hide (And.intro hrc (And.intro hcW (And.intro hcv hb4))); clear hrc hcW hcv hb4)
                        | (go_at_call 28; refine (eq28 gb 0 gc 0 n (n + 1) (n + 1) rb rc v4 (by omega) (((Sl.of_row HA3.out.1).below HA4.out.2.2.2).le (by omega)) ((Sl.of_row HA4.out.1).le (by omega)) (val_inj HA3.out.2.1 HA4.out.2.1 (by rw [HA3.out.2.2.1, HA4.out.2.2.1, HA2.out.2.2.1, Hzfv.out, ← Hvq.out]; exact Hm.out.2.2.2.symm))).mono ?_; rintro e v5 ⟨rfl, mm, hv5⟩; have Hv5 := hide hv5; clear hv5))
                    go_wp2
                    go_ret
                    refine ⟨rfl, ?_⟩
                    have b2 : Below v1.heap.size v1 v2 := (Below.refl _ v1).drew.trans HA2.out.2.2.2
                    have b3 : Below v1.heap.size v1 v3 := b2.trans (HA3.out.2.2.2.mono b2.size)
                    have b4 : Below v1.heap.size v1 v4 := b3.trans (HA4.out.2.2.2.mono b3.size)
                    have b5 : Below v1.heap.size v1 v5 := by rw [Hv5.out]; exact below_drewN b4 mm
                    rw [← HS.out]
                    exact HB1.out.trans (b5.mono hsz1)
end Go.Proofs.Qxb6002380a
