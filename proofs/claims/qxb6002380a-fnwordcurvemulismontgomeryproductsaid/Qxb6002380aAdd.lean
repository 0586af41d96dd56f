import Derived.Test.Qxb6002380aCurve
namespace Go.Proofs.Qxb6002380a
open Go.RowKit

/-- The sum's first j words. -/
def LA (x y : Nat → Nat) (j : Nat) (s : Nat → Nat) (c : Nat) : Prop :=
  val s j + c * W ^ j = val x j + val y j ∧ (∀ k, j ≤ k → s k = 0) ∧ (∀ k, s k < W) ∧ c ≤ 1

theorem LA.start {x y : Nat → Nat} : LA x y 0 (fun _ => 0) 0 := ⟨by simp [val], fun _ _ => rfl, fun _ => W_pos, by omega⟩

theorem la_alg {B V sx c vx vy xj yj o d : Nat} (h1 : sx + c * V = vx + vy) (he : xj + yj + c = o * B + d) : sx + d * V + o * (V * B) = vx + xj * V + (vy + yj * V) := by
  have e2 : (xj + yj + c) * V = (o * B + d) * V := by rw [he]
  grind

theorem LA.step {x y s : Nat → Nat} {j c d o : Nat} (h : LA x y j s c) (he : x j + y j + c = o * W + d) (hd : d < W) (ho : o ≤ 1) : LA x y (j + 1) (up s j d) o := by
  obtain ⟨h1, h2, h3, h4⟩ := h
  refine ⟨?_, fun k hk => ?_, up_lt h3 hd, ho⟩
  · rw [val, val_up_ge (Nat.le_refl j), up_same, val, val, Nat.pow_succ]
    exact la_alg h1 he
  · rw [up_ne _ (by omega), h2 k (by omega)]

/-- What add answers. -/
def AddOK (n X Y P : Nat) (r : Nat → Nat) : Prop :=
  (∀ k, r k < W) ∧ (∀ k, n ≤ k → r k = 0) ∧ val r n < P ∧ (val r n = X + Y ∨ val r n + P = X + Y)

theorem LA.keep {x y s p r : Nat → Nat} {n c b P : Nat} (h : LA x y n s c) (h4 : L4 s p n r b) (hP : P = val p n) (hp : ∀ k, p k < W) (hlt : val x n + val y n < 2 * P) (hb : b ≤ c) : AddOK n (val x n) (val y n) P r := by
  obtain ⟨a1, a2, a3, a4⟩ := h
  obtain ⟨b1, b2, b3, b4⟩ := h4
  have hPR : P < W ^ n := by rw [hP]; exact val_lt fun i _ => hp i
  rw [← hP] at b1
  have hcb : c = b := by
    by_cases e : c = b
    · exact e
    · exfalso
      have e1 : c = 1 := by omega
      have e2 : b = 0 := by omega
      rw [e1] at a1
      rw [e2] at b1
      omega
  rw [← hcb] at b1
  exact ⟨b3, b2, by omega, Or.inr (by omega)⟩

theorem LA.copy {x y s p r : Nat → Nat} {n c b P : Nat} (h : LA x y n s c) (h4 : L4 s p n r b) (hP : P = val p n) (hb : c < b) : AddOK n (val x n) (val y n) P s := by
  obtain ⟨a1, a2, a3, a4⟩ := h
  obtain ⟨b1, b2, b3, b4⟩ := h4
  have hr : val r n < W ^ n := val_lt fun i _ => b3 i
  rw [← hP] at b1
  have e1 : c = 0 := by omega
  have e2 : b = 1 := by omega
  rw [e1] at a1
  rw [e2] at b1
  exact ⟨a3, a2, by omega, Or.inl (by omega)⟩

set_option maxRecDepth 1000000 in
set_option maxHeartbeats 8000000 in
/-- wordCurve.add. -/
theorem addC (wb xb xo yb yo zb zo n : Nat) (q x y : Nat → Nat) (w : World) (cz : Array Value) (tz : TypeId) (hn0 : 1 ≤ n) (hn : n ≤ 9) (hq : ∀ k, q k < W) (hx : ∀ k, x k < W) (hy : ∀ k, y k < W)
    (hrow : w.rowIs wb 85 29 (wc q n)) (hxc : ∀ i, i < n → w.cell? ⟨xb, xo + i, none⟩ = some (.int .u64 (x i))) (hyc : ∀ i, i < n → w.cell? ⟨yb, yo + i, none⟩ = some (.int .u64 (y i)))
    (hz : w.heap[zb]? = some (.cells cz tz (0, 0))) (hzo : zo + 9 ≤ cz.size) (hlt : val x n + val y n < 2 * val q n) :
    Calls Try.prog 37 #[.pointer (some ⟨wb, 0, none⟩), .pointer (some ⟨zb, zo, none⟩), .pointer (some ⟨xb, xo, none⟩), .pointer (some ⟨yb, yo, none⟩)] w fun e w' =>
      e = .returned (.tuple #[]) ∧ ∃ r, AddOK n (val x n) (val y n) (val q n) r ∧ Wrote zb zo (fun k => .int .u64 (r k : Nat)) w w' := by
  have c9 : w.cell? ⟨wb, 9, none⟩ = some (.int .i64 n) := hrow.cell (i := 9) (by omega)
  have hwb := hrow.lt
  have hxb : xb < w.heap.size := World.block_lt_of_cell? w _ (hxc 0 hn0)
  have hyb : yb < w.heap.size := World.block_lt_of_cell? w _ (hyc 0 hn0)
  have hzb : zb < w.heap.size := (Array.getElem?_eq_some_iff.1 hz).1
  have hn9 : (n : Int) ≤ 9 := by omega
  have hn1 : (0 : Int) ≤ (n : Int) := by omega
  have Hrow := hide hrow
  have Hq := hide hq
  have Hx := hide hx
  have Hy := hide hy
  have Hxc := hide hxc
  have Hyc := hide hyc
  have Hz := hide hz
  have Hlt := hide hlt
  clear hrow hq hx hy hxc hyc hz hlt
  obtain ⟨S, hS⟩ : ∃ S, S = w.heap.size := ⟨_, rfl⟩
  rw [← hS] at hwb hxb hyb hzb
  have HS := hide hS
  clear hS
  go_enter Try.func37, Try.ntmps37
  go_upto_region 1 with (fail)
  rw [← HS.out]
  obtain ⟨w1, hw1⟩ : ∃ w1, w1 = (w.alloc (.cells #[.int .u64 0, .int .u64 0, .int .u64 0, .int .u64 0, .int .u64 0, .int .u64 0, .int .u64 0, .int .u64 0, .int .u64 0] 70 (0, 0))).alloc (.cells #[.int .u64 0, .int .u64 0, .int .u64 0, .int .u64 0, .int .u64 0, .int .u64 0, .int .u64 0, .int .u64 0, .int .u64 0] 70 (0, 0)) := ⟨_, rfl⟩
  rw [← hw1]
  obtain ⟨r1, r2, r3⟩ := two9 hw1
  have c9' := Below.some r3 c9
  rw [← HS.out] at r1 r2 r3
  have HR1 := hide r1
  have HR2 := hide r2
  have HB1 := hide r3
  clear r1 r2 r3 hw1 c9
  go_quiet (fail)
  go_wp2
  go_quiet (fail)
  go_wp2
  go_loopw [15, 50] (fun s15 s50 wr => ∃ (j c : Nat) (s : Nat → Nat), j ≤ n ∧ s15 = .int .u64 (c : Nat) ∧ s50 = .int .i64 (j : Int) ∧ LA x y j s c ∧ wr.rowIs S 70 9 (fun i => .int .u64 (s i : Nat)) ∧ wr.rowIs (S + 1) 70 9 (fun _ => .int .u64 0) ∧ Below S w wr) (fun _ s50 _ => n - (intOf s50).toNat)
  case atStart => exact ⟨0, 0, fun _ => 0, by omega, by go_num, by go_num, LA.start, HR1.out.of_block rfl, HR2.out.of_block rfl, below_drewN HB1.out _⟩
  case round =>
    obtain ⟨j, c, s, hj, rfl, rfl, hA, hr1, hr2, hb⟩ := hrel
    have HA := hide hA
    have Hr1 := hide hr1
    have Hr2 := hide hr2
    have Hb := hide hb
    clear hA hr1 hr2 hb HR1 HR2 HB1 c9'
    by_cases hlt : j < n
    · have i1 : (j : Int) < (n : Int) := by omega
      have cx : wr.cell? ⟨xb, xo + j, none⟩ = some (.int .u64 (x j)) := cell_below Hb.out hxb (Hxc.out j hlt)
      have cy : wr.cell? ⟨yb, yo + j, none⟩ = some (.int .u64 (y j)) := cell_below Hb.out hyb (Hyc.out j hlt)
      have cs : wr.cell? ⟨S, j, none⟩ = some (.int .u64 (s j : Nat)) := Hr1.out.cell (i := j) (by omega)
      have cf := Hr1.out.frozen j
      go_upto_region 7 with (fail)
      go_region_held3 (fun w' => w'.cell? ⟨xb, xo + j, none⟩ = some (.int .u64 (x j)) ∧ w'.cell? ⟨yb, yo + j, none⟩ = some (.int .u64 (y j))) (first | exact ⟨cx, cy⟩ | exact ⟨cell_below (((Below.refl S _).setCell (p := ⟨S, j, none⟩) (Nat.le_refl S) _).drew) hxb cx, cell_below (((Below.refl S _).setCell (p := ⟨S, j, none⟩) (Nat.le_refl S) _).drew) hyb cy⟩)
        (first | (go_at_call 52; refine (addW (x j) (y j) c (Hx.out j) (Hy.out j) HA.out.2.2.2 _).mono ?_; rintro e w5 ⟨d, o, rfl, rfl, h1, hd, ho⟩; have Hh1 := hide h1; clear h1))
      go_wp2
      go_roundw
      case rel =>
        refine ⟨j + 1, o, up s j d, by omega, by go_num, by go_num, HA.out.step Hh1.out hd ho, ((Hr1.out.set j _).congr fun k _ => ?_).drew, (Hr2.out.of_block (heap_setCell_other _ _ _ _ (show S + 1 ≠ S by omega))).drew, (Hb.out.setCell (p := ⟨S, j, none⟩) (Nat.le_refl S) _).drew⟩
        unfold up
        by_cases e : k = j <;> simp [e]
      case measure => simp [intOf]; omega
    · have HAn : Hid (LA x y n s c) := hide (by have h := HA.out; rw [show j = n by omega] at h; exact h)
      have i1 : ¬ ((j : Int) < (n : Int)) := by omega
      clear HA
      obtain ⟨wo, hwo⟩ : ∃ wo, wo = wr := ⟨_, rfl⟩
      subst hwo
      go_wp2
      go_loopw [16, 72] (fun s16 s72 wr => ∃ (i b : Nat) (r : Nat → Nat), i ≤ n ∧ s16 = .int .u64 (b : Nat) ∧ s72 = .int .i64 (i : Int) ∧ L4 s q i r b ∧ wr.rowIs (S + 1) 70 9 (fun k => .int .u64 (r k : Nat)) ∧ Below (S + 1) wo wr) (fun _ s72 _ => n - (intOf s72).toNat)
      case atStart => exact ⟨0, 0, fun _ => 0, by omega, by go_num, by go_num, L4.start, Hr2.out, Below.refl _ _⟩
      case round =>
        obtain ⟨i, b, r, hi, rfl, rfl, h4, hr, hbv⟩ := hrel
        have H4 := hide h4
        have HR := hide hr
        have Hv := hide hbv
        clear h4 hr hbv
        have Hv2 : Hid (Below S w wr) := hide (Hb.out.trans (Hv.out.mono (by omega)))
        by_cases hlt2 : i < n
        · have i2 : (i : Int) < (n : Int) := by omega
          have cq : wr.cell? ⟨wb, i, none⟩ = some (.int .u64 (q i)) := cell_below Hv2.out hwb (by rw [Hrow.out.cell (i := i) (by omega), wc_word (by omega)])
          have cs : wr.cell? ⟨S, i, none⟩ = some (.int .u64 (s i : Nat)) := cell_below Hv.out (show S < S + 1 by omega) (Hr1.out.cell (i := i) (by omega))
          have cr : wr.cell? ⟨S + 1, i, none⟩ = some (.int .u64 (r i : Nat)) := HR.out.cell (i := i) (by omega)
          have cf := HR.out.frozen i
          go_wp2_with fail
          refine (subW (s i) (q i) b (HAn.out.2.2.1 _) (Hq.out _) H4.out.2.2.2 _).mono ?_
          rintro e w5 ⟨d, o, rfl, rfl, h1, hd, ho⟩
          have Hh1 := hide h1
          clear h1
          go_wp2
          go_roundw
          case rel =>
            refine ⟨i + 1, o, up r i d, by omega, by go_num, by go_num, H4.out.step hd ho Hh1.out, (HR.out.set i _).congr fun k _ => ?_, Hv.out.setCell (p := ⟨S + 1, i, none⟩) (Nat.le_refl _) _⟩
            unfold up
            by_cases e : k = i <;> simp [e]
          case measure => simp [intOf]; omega
        · have i2 : ¬ ((i : Int) < (n : Int)) := by omega
          have HL4 : Hid (L4 s q n r b) := hide (by have h := H4.out; rw [show i = n by omega] at h; exact h)
          have Hw : Hid (Below w.heap.size w wr) := hide (HS.out ▸ Hv2.out)
          have HRs : Hid (wr.rowIs S 70 9 (fun i => .int .u64 (s i : Nat))) := hide (Hr1.out.of_block (Hv.out.block S (by omega)))
          go_wp2_with fail
          refine (subW0 c b (Nat.lt_of_le_of_lt HAn.out.2.2.2 (by unfold W; omega)) HL4.out.2.2.2 _).mono ?_
          rintro e w5 ⟨d, o, rfl, rfl, h1⟩
          rcases h1 with ⟨rfl, h1⟩ | ⟨rfl, h1⟩
          · have Hh1 := hide h1
            clear h1
            obtain ⟨cr, hcr, hcs, hcc⟩ := HR.out
            have Hcr := hide hcr
            have Hcc := hide hcc
            have Hone := hide (all_one hcs hcc)
            have Hi := hide (info70 hcs)
            have hfit : zo + cr.size ≤ cz.size := by omega
            have Hz1 : Hid (w5.heap[zb]? = some (.cells cz tz (0, 0))) := hide ((Hw.out.block zb (by have := HS.out; omega)).trans Hz.out)
            clear hcr hcc
            go_upto_region 17 with (fail)
            go_step
            go_wp2_with (first | refine wpList_load_row rfl 70 (.tmp 9) rfl (S + 1) rfl 70 cr (0, 0) (.array 9 35) Hcr.out und70 rfl Hi.out ?_ | refine wpList_store_at rfl 70 (.tmp 102) (.tmp 101) rfl zb zo cr rfl rfl tz cz Hz1.out Hi.out hfit Hone.out ?_)
            go_end0
            exact ⟨rfl, r, HAn.out.keep HL4.out rfl Hq.out Hlt.out Hh1.out, wrote_of Hw.out Hz.out hcs Hcc.out hzo⟩
          · have Hh1 := hide h1
            clear h1
            obtain ⟨cr, hcr, hcs, hcc⟩ := HR.out
            obtain ⟨ct, hct, hcts, hctc⟩ := HRs.out
            have Hcr := hide hcr
            have Hct := hide hct
            have Hctc := hide hctc
            have Hone := hide (all_one hcts hctc)
            have Hi := hide (info70 hcts)
            have hfit : zo + ct.size ≤ cz.size := by omega
            have hfit2 : 0 + ct.size ≤ cr.size := by omega
            have Hz1 : Hid (w5.heap[zb]? = some (.cells cz tz (0, 0))) := hide ((Hw.out.block zb (by have := HS.out; omega)).trans Hz.out)
            have Hz2 : Hid ((w5.setRow (S + 1) (splice cr 0 ct.toList)).heap[zb]? = some (.cells cz tz (0, 0))) := hide ((setRow_other w5 (S + 1) zb _ (by omega)).trans Hz1.out)
            have Hcr2 : Hid ((w5.setRow (S + 1) (splice cr 0 ct.toList)).heap[S + 1]? = some (.cells ct 70 (0, 0))) := hide (by
              rw [setRow_heap w5 (S + 1) cr _ 70 _ Hcr.out, splice_all (by omega)])
            have Hw2 : Hid (Below w.heap.size w (w5.setRow (S + 1) (splice cr 0 ct.toList))) := hide (below_setRow Hw.out (by have := HS.out; omega) _)
            clear hcr hcc hct hctc
            go_upto_region 16 with (fail)
            go_step
            go_wp2_with (first | refine wpList_load_row rfl 70 (.tmp 8) rfl S rfl 70 ct (0, 0) (.array 9 35) Hct.out und70 rfl Hi.out ?_ | refine wpList_store_at rfl 70 (.tmp 9) (.tmp 99) rfl (S + 1) 0 ct rfl rfl 70 cr Hcr.out Hi.out hfit2 Hone.out ?_ | refine wpList_load_row rfl 70 (.tmp 9) rfl (S + 1) rfl 70 ct (0, 0) (.array 9 35) Hcr2.out und70 rfl Hi.out ?_ | refine wpList_store_at rfl 70 (.tmp 102) (.tmp 101) rfl zb zo ct rfl rfl tz cz Hz2.out Hi.out hfit Hone.out ?_)
            go_end0
            exact ⟨rfl, s, HAn.out.copy HL4.out rfl Hh1.out, wrote_of Hw2.out Hz.out hcts Hctc.out hzo⟩
end Go.Proofs.Qxb6002380a
