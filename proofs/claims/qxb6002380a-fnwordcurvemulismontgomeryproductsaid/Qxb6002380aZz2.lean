import Derived.Test.Qxb6002380aZz1
import Derived.Test.Qxb6002380aSetU
namespace Go.Proofs.Qxb6002380a
open Go.RowKit

theorem info31 : (Try.prog.info? 31).map (fun i => (i.zero, i.size, i.bytes)) = some (some (.int .u64 0), 1, 8) := by kernel_rfl
theorem info35' : (Try.prog.info? 35).map (fun i => (i.zero, i.size, i.bytes)) = some (some (.int .u64 0), 1, 8) := by kernel_rfl

theorem Sl.lt {w : World} {b o n : Nat} {z : Nat → Nat} (h : Sl w b o n z) (hn : 0 < n) : b < w.heap.size := World.block_lt_of_cell? w _ (h 0 hn)
theorem Sl.of_row {w : World} {b t n : Nat} {z : Nat → Nat} (h : w.rowIs b t n (fun i => .int .u64 (z i : Nat))) : Sl w b 0 n z := by
  intro i hi; rw [Nat.zero_add]; exact h.cell hi

set_option maxRecDepth 100000 in
set_option maxHeartbeats 1000000 in
/-- zzToUint. -/
theorem to25 (b o n cap : Nat) (z : Nat → Nat) (w : World) (hn0 : 0 < n) (hn : n ≤ 4096) (hc : Sl w b o n z) :
    Calls Try.prog 25 #[.slice (some ⟨b, o, none⟩) n cap] w fun e w' => ∃ g, e = .returned (.slice (some ⟨g, 0, none⟩) n n) ∧ w.heap.size ≤ g ∧ w'.rowIs g 35 n (fun i => .int .u64 (z i : Nat)) ∧ Below w.heap.size w w' := by
  have hmk := run_make_row' 34 35 (.int .u64 0) 8 Try.underlying34 info35' rfl .i64 .i64 n (by omega) (by omega)
  have hlt := hc.lt hn0
  have Hc := hide hc
  clear hc
  go_enter Try.func25, Try.ntmps25
  go_wp2
  go_loopw [4] (fun i wr => ∃ k : Nat, k ≤ n ∧ i = .int .i64 k ∧ wr.rowIs w.heap.size 35 n (fun i => .int .u64 ((if i < k then z i else 0 : Nat) : Int)) ∧ Below w.heap.size w wr) (fun i _ => n - (intOf i).toNat)
  case atStart => exact ⟨0, Nat.zero_le _, rfl, (World.rowIs_made w _ n 35).congr (fun i hi => by simp), (Below.refl _ _).alloc (Nat.le_refl _) _⟩
  case round =>
    obtain ⟨k, hk, rfl, hrow, hbel⟩ := hrel
    by_cases hkn : k < n
    · have hck : wr.cell? ⟨b, o + k, none⟩ = some (.int .u64 (z k : Nat)) := (hbel.cell hlt).trans (Hc.out k hkn)
      have hcs := hrow.cell hkn
      have hfz := hrow.frozen k
      go_wp2
      go_roundw
      case rel =>
        refine ⟨k + 1, by omega, by go_num, (hrow.set k _).congr (fun i hi => ?_), hbel.setCell (Nat.le_refl _) _⟩
        by_cases e : i = k
        · subst e; simp
        · have e1 : (i < k + 1) = (i < k) := by rw [eq_iff_iff]; omega
          simp only [e, if_false, e1]
      case measure => simp [intOf]; omega
    · have e : k = n := by omega
      have Hrow := hide hrow
      have Hbel := hide hbel
      clear hrow hbel
      go_wp2
      go_ret
      refine ⟨w.heap.size, rfl, Nat.le_refl _, Hrow.out.congr fun i hi => ?_, Hbel.out⟩
      rw [if_pos (by omega)]

set_option maxRecDepth 100000 in
set_option maxHeartbeats 1000000 in
/-- zzFromUint. -/
theorem from26 (b o n cap : Nat) (z : Nat → Nat) (w : World) (hn0 : 0 < n) (hn : n ≤ 4096) (hc : Sl w b o n z) :
    Calls Try.prog 26 #[.slice (some ⟨b, o, none⟩) n cap] w fun e w' => ∃ g, e = .returned (.slice (some ⟨g, 0, none⟩) n n) ∧ w.heap.size ≤ g ∧ w'.rowIs g 31 n (fun i => .int .u64 (z i : Nat)) ∧ Below w.heap.size w w' := by
  have hmk := run_make_row' 45 31 (.int .u64 0) 8 Try.underlying45 info31 rfl .i64 .i64 n (by omega) (by omega)
  have hlt := hc.lt hn0
  have Hc := hide hc
  clear hc
  go_enter Try.func26, Try.ntmps26
  go_wp2
  go_loopw [4] (fun i wr => ∃ k : Nat, k ≤ n ∧ i = .int .i64 k ∧ wr.rowIs w.heap.size 31 n (fun i => .int .u64 ((if i < k then z i else 0 : Nat) : Int)) ∧ Below w.heap.size w wr) (fun i _ => n - (intOf i).toNat)
  case atStart => exact ⟨0, Nat.zero_le _, rfl, (World.rowIs_made w _ n 31).congr (fun i hi => by simp), (Below.refl _ _).alloc (Nat.le_refl _) _⟩
  case round =>
    obtain ⟨k, hk, rfl, hrow, hbel⟩ := hrel
    by_cases hkn : k < n
    · have hck : wr.cell? ⟨b, o + k, none⟩ = some (.int .u64 (z k : Nat)) := (hbel.cell hlt).trans (Hc.out k hkn)
      have hcs := hrow.cell hkn
      have hfz := hrow.frozen k
      go_wp2
      go_roundw
      case rel =>
        refine ⟨k + 1, by omega, by go_num, (hrow.set k _).congr (fun i hi => ?_), hbel.setCell (Nat.le_refl _) _⟩
        by_cases e : i = k
        · subst e; simp
        · have e1 : (i < k + 1) = (i < k) := by rw [eq_iff_iff]; omega
          simp only [e, if_false, e1]
      case measure => simp [intOf]; omega
    · have e : k = n := by omega
      have Hrow := hide hrow
      have Hbel := hide hbel
      clear hrow hbel
      go_wp2
      go_ret
      refine ⟨w.heap.size, rfl, Nat.le_refl _, Hrow.out.congr fun i hi => ?_, Hbel.out⟩
      rw [if_pos (by omega)]

set_option maxRecDepth 100000 in
set_option maxHeartbeats 1000000 in
/-- zzWordsEq of equal words. -/
theorem eq28 (ab ao bb bo n ca cb : Nat) (a b : Nat → Nat) (w : World) (hn : n ≤ 4096) (hac : Sl w ab ao n a) (hbc : Sl w bb bo n b) (he : ∀ i, i < n → a i = b i) :
    Calls Try.prog 28 #[.slice (some ⟨ab, ao, none⟩) n ca, .slice (some ⟨bb, bo, none⟩) n cb] w fun e w' => e = .returned (.bool true) ∧ ∃ m, w' = w.drewN m := by
  have Hac := hide hac
  have Hbc := hide hbc
  have He := hide he
  have hnn : ((n : Int) != (n : Int)) = false := by simp
  clear hac hbc he
  go_enter Try.func28, Try.ntmps28
  go_wp2
  go_loopw [5] (fun s5 wr => ∃ k m : Nat, k ≤ n ∧ s5 = .int .i64 (k : Int) ∧ wr = w.drewN m) (fun s5 _ => n - (intOf s5).toNat)
  case atStart => exact ⟨0, 0, by omega, by go_num, rfl⟩
  case round =>
    obtain ⟨k, m, hk, rfl, hw⟩ := hrel
    subst hw
    by_cases hkn : k < n
    · have i1 : (k : Int) < (n : Int) := by omega
      have c1 := Hac.out k hkn
      have c2 := Hbc.out k hkn
      rw [← He.out k hkn] at c2
      go_wp2
      go_quiet (fail)
      go_wp2
      go_roundw
      case rel => exact ⟨k + 1, _, by omega, by go_num, by first | rfl | simp only [World.drewN_drewN]⟩
      case measure => simp [intOf]; omega
    · have i1 : ¬ ((k : Int) < (n : Int)) := by omega
      go_wp2
      go_ret
      exact ⟨rfl, _, rfl⟩

theorem val_ge_top {r p : Nat → Nat} {n : Nat} (hp : ∀ k, p k < W) (hr : r n ≠ 0) : decide (val r (n + 1) < val p n) = false := by
  rw [decide_eq_false_iff_not, val]
  have h1 : val p n < W ^ n := val_lt fun i _ => hp i
  have h2 : 1 * W ^ n ≤ r n * W ^ n := Nat.mul_le_mul_right _ (by omega)
  omega

set_option maxRecDepth 100000 in
/-- zzLessExt. -/
theorem less40 (rb ro pb po n cr cp : Nat) (r p : Nat → Nat) (w : World) (hn : n ≤ 4096) (hr : ∀ i, r i < W) (hp : ∀ i, p i < W) (hrc : Sl w rb ro (n + 1) r) (hpc : Sl w pb po n p) (hcr : n + 1 ≤ cr) :
    Calls Try.prog 40 #[.slice (some ⟨rb, ro, none⟩) (n + 1 : Nat) cr, .slice (some ⟨pb, po, none⟩) n cp] w fun e w' => e = .returned (.bool (decide (val r (n + 1) < val p n))) ∧ ∃ m, w' = w.drewN m := by
  have c := hrc n (by omega)
  have i1 : (n : Int) < (n : Int) + 1 := by omega
  have i2 : (n : Int) ≤ (cr : Int) := by omega
  have i3 : (0 : Int) ≤ (n : Int) := by omega
  have c23 := fun w (h1 : Sl w rb ro n r) (h2 : Sl w pb po n p) => less23 rb ro pb po n cr cp r p w hn hr hp h1 h2
  have H1 := hide (hrc.le (show n ≤ n + 1 by omega))
  have H2 := hide hpc
  have Hp := hide hp
  have H23 := hide c23
  clear hrc hpc c23 hr hp
  by_cases h0 : r n = 0
  · have h0' : ((r n : Int) != 0) = false := by rw [h0]; rfl
    have Hv : Hid (val r (n + 1) = val r n) := hide (by rw [val, h0]; simp)
    clear h0
    go_enter Try.func40, Try.ntmps40
    go_wp2_with fail
    refine (H23.out w H1.out H2.out).mono ?_
    rintro e w' ⟨rfl, m, hw⟩
    go_wp2
    go_ret
    exact ⟨by rw [Hv.out]; rfl, m, by trivial⟩
  · have h0' : ((r n : Int) != 0) = true := by rw [bne_iff_ne]; omega
    have Hv := hide (val_ge_top Hp.out h0)
    clear h0
    go_enter Try.func40, Try.ntmps40
    go_wp2
    go_ret
    exact ⟨by rw [Hv.out]; rfl, 0, rfl⟩

set_option maxRecDepth 100000 in
set_option maxHeartbeats 1000000 in
/-- nat.norm: the words up to the highest that is not zero. -/
theorem norm64 (b N n cap : Nat) (z : Nat → Nat) (w : World) (hN : N ≤ 4096) (hn0 : 0 < n) (hn : n ≤ N) (hcap : N ≤ cap) (hc : Sl w b 0 N z) (htop : z (n - 1) ≠ 0) (hz : ∀ i, n ≤ i → i < N → z i = 0) :
    Calls Try.prog 64 #[.slice (some ⟨b, 0, none⟩) N cap] w fun e w' => e = .returned (.slice (some ⟨b, 0, none⟩) n cap) ∧ w' = w := by
  have Hc := hide hc
  have Ht := hide htop
  have Hz := hide hz
  clear hc htop hz
  go_enter Try.func64, Try.ntmps64
  go_wp2
  go_loopw [3] (fun s3 wr => ∃ k : Nat, n ≤ k ∧ k ≤ N ∧ s3 = .int .i64 (k : Int) ∧ wr = w) (fun s3 _ => (intOf s3).toNat)
  case atStart => exact ⟨N, by omega, by omega, by go_num, rfl⟩
  case round =>
    obtain ⟨k, hk1, hk2, rfl, hw⟩ := hrel
    have hw := hw.symm
    subst hw
    have k0 : (0 : Int) < (k : Int) := by omega
    obtain ⟨j, hj⟩ : ∃ j : Nat, k = j + 1 := ⟨k - 1, by omega⟩
    have hji : (k : Int) - 1 = (j : Int) := by omega
    have cj : w.cell? ⟨b, j, none⟩ = some (.int .u64 (z j : Nat)) := by have h := Hc.out j (by omega); rw [Nat.zero_add] at h; exact h
    have i1 : (j : Int) < (N : Int) := by omega
    by_cases hkn : n < k
    · have hz0 : ((z j : Int) == 0) = true := by rw [Hz.out j (by omega) (by omega)]; rfl
      have Hj := hide hj
      clear hj
      go_wp2
      go_roundw
      case rel => exact ⟨j, by have := Hj.out; omega, by have := Hj.out; omega, by go_num, by trivial⟩
      case measure => simp [intOf]; have := Hj.out; omega
    · have ekn : k = n := by omega
      have hz0 : ((z j : Int) == 0) = false := by
        have e : j = n - 1 := by omega
        rw [beq_eq_false_iff_ne]
        have := Ht.out
        rw [← e] at this
        omega
      have i2 : (k : Int) ≤ (cap : Int) := by omega
      have i3 : (0 : Int) ≤ (k : Int) := by omega
      have Hj := hide hj
      have He := hide ekn
      clear hj ekn
      go_wp2
      go_ret
      exact ⟨by rw [← He.out]; rfl, by trivial⟩

set_option maxRecDepth 100000 in
/-- Int.SetBits on a new Int. -/
theorem set54 (b d N n : Nat) (z : Nat → Nat) (w : World) (hb : w.heap[b]? = some (.cells #[.bool false, .slice none 0 0] 64 (0, 0))) (hdb : d ≠ b) (hN : N ≤ 4096) (hn0 : 0 < n) (hn : n ≤ N) (hc : Sl w d 0 N z) (htop : z (n - 1) ≠ 0) (hz : ∀ i, n ≤ i → i < N → z i = 0) :
    Calls Try.prog 54 #[.pointer (some ⟨b, 0, none⟩), .slice (some ⟨d, 0, none⟩) N N] w fun e w' => e = .returned (.pointer (some ⟨b, 0, none⟩)) ∧ IntIs w' b (some ⟨d, 0, none⟩) n N z ∧ Below b w w' := by
  have c0 : w.cell? ⟨b, 0, none⟩ = some (.bool false) := by rw [cell_of_row w b 0 _ _ _ hb]; rfl
  have c1 : w.cell? ⟨b, 1, none⟩ = some (.slice none 0 0) := by rw [cell_of_row w b 1 _ _ _ hb]; rfl
  have f0 : w.frozen? ⟨b, 0, none⟩ = false := frozen_of_row w b 0 _ _ hb
  have f1 : w.frozen? ⟨b, 1, none⟩ = false := frozen_of_row w b 1 _ _ hb
  have Hb := hide hb
  have Hc := hide hc
  have H64 := hide (norm64 d N n N z w hN hn0 hn (Nat.le_refl _) hc htop hz)
  clear hb hc htop hz
  go_enter Try.func54, Try.ntmps54
  go_wp2_with fail
  refine H64.out.mono ?_
  rintro e w' ⟨rfl, hw⟩
  have hw := hw.symm
  subst hw
  go_wp2
  go_ret
  have h2 : ((w.setCell ⟨b, 1, none⟩ (.slice (some ⟨d, 0, none⟩) n N)).setCell ⟨b, 0, none⟩ (.bool false)).heap[b]? = some (.cells #[.bool false, .slice (some ⟨d, 0, none⟩) n N] 64 (0, 0)) := by
    rw [heap_setCell_same _ b 0 _ 64 _ (heap_setCell_same w b 1 _ 64 _ Hb.out)]; rfl
  refine ⟨rfl, ⟨h2, Or.inr ⟨d, 0, rfl, fun i hi => ?_⟩⟩, ((Below.refl b w).setCell (p := ⟨b, 1, none⟩) (Nat.le_refl b) _).setCell (p := ⟨b, 0, none⟩) (Nat.le_refl b) _⟩
  have e := World.cell?_of_block (w := w) (a := ⟨d, 0 + i, none⟩) ((heap_setCell_other _ ⟨b, 0, none⟩ d (.bool false) hdb).trans (heap_setCell_other w ⟨b, 1, none⟩ d (.slice (some ⟨d, 0, none⟩) n N) hdb))
  exact e.trans (Hc.out i (by omega))
end Go.Proofs.Qxb6002380a
