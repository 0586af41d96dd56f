import Derived.Test.Qxb6001336aTail5
namespace Go.Proofs.Qxb6001336a
open Go.RowKit

set_option maxRecDepth 100000 in
set_option maxHeartbeats 8000000 in
theorem law5_pos (b off n cap : Nat) (split : Bool) (z : Nat → Int) (w : World) (hn0 : 0 < n) (hlt : b < w.heap.size) (hc : ∀ i, i < n → w.cell? ⟨b, off + i, none⟩ = some (.int .i32 (z i))) (h16 : n ≤ 65536) :
    Calls Try.prog 5 #[.slice (some ⟨b, off, none⟩) n cap, .bool split] w fun e w' => e = .returned (.bool true) ∧ Below w.heap.size w w' := by
  have HR : Hid (Row .i32 w (some ⟨b, off, none⟩) n z) := Or.inr ⟨b, off, rfl, hlt, hc⟩
  have Hc := hide hc
  clear hc
  have h20 : n ≤ 1048576 := by omega
  have hnm : n ≤ maxLen := by unfold maxLen; omega
  go_enter Try.func5, Try.ntmps5
  go_upto_region 7 with (first | (go_at_call 15; refine (bytes15 _ _ _ _ _ hnm).mono ?_; rintro e w1 ⟨rfl, hw1⟩; subst hw1) | (go_at_call 7; refine (asc_any _ _ _ z _ HR.out h16).mono ?_; rintro e w' ⟨r, rfl, hgood, qa, rfl⟩; have HG := hide hgood; clear hgood; cases r))
  · go_ret
    exact ⟨rfl, below_drewN (Below.refl _ _) _⟩
  · have hG : Good z n := by first | exact HG.out rfl | exact HG.out trivial
    obtain ⟨p, hp⟩ : ∃ p, n = p + 1 := ⟨n - 1, by omega⟩
    obtain ⟨T, hT⟩ : ∃ T : Nat, z p - z 0 = (T : Int) := Int.eq_ofNat_of_zero_le (by have := hG.1.le (i := 0) (j := p) (by omega) (by omega); omega)
    have HGd := hide hG
    have HT := hide hT
    have Hp := hide hp
    have hpi : (n : Int) - 1 = (p : Int) := by omega
    have hpn : p < n := by omega
    have HT2 : Hid (∀ p', n = p' + 1 → z p' - z 0 = (T : Int)) := fun p' hp' => by
      have e : p' = p := by omega
      rw [e]; exact hT
    clear hG HG hT hp
    go_cut [5] (fun s5 wr => ∃ X, s5 = .pointer (some ⟨X, 0, none⟩) ∧ (∃ S sh q ca cc sv crv, Built wr X S sh q n T split z ca cc sv crv) ∧ Below w1.heap.size w1 wr)
    case first =>
      go_wp2_with (first
        | (go_at_call 9; refine (dates_any _ _ _ z _ (HR.out.below (below_drewN (Below.refl _ _) _)) h16).mono ?_; rintro e w2 ⟨sb, rfl, hsb, hrow, hb2⟩; have Hrow := hide hrow; have HB2 := hide hb2; clear hrow hb2)
        | (go_at_call 8; refine (zznew_n sb n T split z _ hn0 h16 HGd.out Hrow.out HT2.out).mono ?_; rintro e w3 ⟨f, s, sh, st, ca, cr, rfl, six, hN⟩; have HN := hide hN; clear hN; have o0 := six.h0; have o1 := six.h1; have o2 := six.h2; have o3 := six.h3; have o4 := six.h4; have o5 := six.h5)
        | ((with_reducible show wpList _ _ _ _ _ _); refine wpList_store_row rfl 32 (.tmp 5) (.tmp 30) rfl w3.heap.size #[f, s, sh, st, ca, cr] rfl rfl 32 _ (XRow.new w3 _ _ _ _ _ _) Try.size32 rfl (one6 o0 o1 o2 o3 o4 o5) ?_))
      go_meet
      case rel =>
        have hbb : Below w3.heap.size w3 ((w3.alloc (.cells #[.int .i32 0, .slice none 0 0, .int .u64 0, .slice none 0 0, .slice none 0 0, .slice none 0 0] 32)).setRow w3.heap.size #[f, s, sh, st, ca, cr]) := below_setRow ((Below.refl _ _).alloc (Nat.le_refl _) _) (Nat.le_refl _) _
        refine ⟨w3.heap.size, rfl, NewP.built HN.out hbb (setRow_heap _ _ _ _ _ _ (XRow.new w3 _ _ _ _ _ _)), ?_⟩
        obtain ⟨_, _, _, _, _, _, _, _, h8, _⟩ := HN.out.six
        have b1 := (below_drewN (Below.refl w1.heap.size w1) qa).trans HB2.out
        have b2 := b1.trans (h8.mono b1.size)
        exact b2.trans (hbb.mono b2.size)
    case rest =>
      obtain ⟨X, rfl, ⟨S, sh, q, ca, cc, sv, crv, hB⟩, hbel⟩ := hcut
      have HB := hide hB
      have hsh := hB.hsh
      have hqb : q < 4 * 65536 := by
        have h1 := hB.hlim
        have h2 : limOf split n T ≤ 4 * n := by unfold limOf; split <;> omega
        omega
      have hq1 : q + 1 ≤ 4 * n := by
        have h1 := hB.hlim
        have h2 : limOf split n T ≤ 4 * n := by unfold limOf; split <;> omega
        omega
      have cS0 : wc.cell? ⟨S, 0, none⟩ = some (.int .i32 0) := by
        have := hB.row.cell (i := 0) (by omega)
        rw [Sc_zero z HGd.out.1] at this
        exact this
      have cSe : wc.cell? ⟨S, q + 1, none⟩ = some (.int .i32 n) := by
        have := hB.row.cell (i := q + 1) (by omega)
        rw [hB.hend] at this
        exact this
      have hxl := hB.x
      obtain ⟨cl, hcl⟩ : ∃ cl, cl = (crowdList z n sh q split).length := ⟨_, rfl⟩
      rw [← hcl] at hxl
      have hclb : cl ≤ 4 * 65536 := by
        rw [hcl]; unfold crowdList; split
        · have := crowdAt_len z n sh (q + 1); omega
        · simp
      have Hx := hide hxl
      have Hcl := hide hcl
      clear hB hcl hxl
      have hnz : ((n : Int) == 0) = false := by simp; omega
      go_wp2_with (first | (go_at_call 16; refine (acc16 Hx.out).mono ?_; rintro e w2 ⟨rfl, hw2⟩; have hw3 := hw2.symm; clear hw2; subst hw3) | (go_at_call 17; refine (acc17 Hx.out).mono ?_; rintro e w2 ⟨rfl, hw2⟩; have hw3 := hw2.symm; clear hw2; subst hw3) | (go_at_call 18; refine (acc18 Hx.out).mono ?_; rintro e w2 ⟨rfl, hw2⟩; have hw3 := hw2.symm; clear hw2; subst hw3))
      go_loopw [10] (fun i wr => ∃ k qq : Nat, k ≤ q + 1 ∧ i = .int .i64 (k + 1 : Nat) ∧ wr = wc.drewN qq) (fun i _ => q + 2 - (intOf i).toNat)
      case atStart => exact ⟨0, 0, by omega, rfl, rfl⟩
      case round =>
        obtain ⟨k, qq, hk, rfl, rfl⟩ := hrel
        by_cases hkq : k < q + 1
        · have c1 := HB.out.row.cell (i := k) (by omega)
          have c2 := HB.out.row.cell (i := k + 1) (by omega)
          have hm := Sc_mono z n sh (i := k) (j := k + 1) (by omega)
          have hk1 : (k : Int) < (q : Int) + 2 := by omega
          have hk2 : (k : Int) + 1 < (q : Int) + 2 := by omega
          go_wp2
          go_quiet (fail)
          go_wp2
          go_roundw
          case rel => exact ⟨k + 1, qq + nq, by omega, by go_num, by first | rfl | simp only [World.drewN_drewN]⟩
          case measure => simp [intOf]; omega
        · obtain rfl : k = q + 1 := by omega
          clear cS0 cSe
          have c0 := Below.some hbel (Hc.out 0 hn0)
          rw [Nat.add_zero] at c0
          go_wp2
          have hxq : Hid (XRow (wc.drewN qq).drew X (.int .i32 (z 0)) sv (.int .u64 sh) (.slice (some ⟨S, 0, none⟩) (q + 2) (q + 2)) (.slice ca cl cc) crv) := Hx.out
          have hw0 : Below wc.heap.size wc (wc.drewN qq) := below_drewN (Below.refl _ _) _
          have hw1 : Below wc.heap.size wc (wc.drewN (qq + 1)) := below_drewN (Below.refl _ _) _
          go_cut [10, 87] (fun _ s87 wr => s87 = .bool false ∧ Below wc.heap.size wc wr)
          case first =>
            go_region_held3 (fun v => v.cell? ⟨b, off, none⟩ = some (.int .i32 (z 0)))
              (exact Below.some (w := wc) (by go_grown) c0)
              (first
                | (go_at_call 20; refine (acc20 hxq.out).mono ?_; rintro e w5 ⟨rfl, rfl⟩)
                | (go_at_call 19; refine (acc19 (z 0) _).mono ?_; rintro e w6 ⟨rfl, rfl⟩))
            go_wp2
            go_meet
            case rel =>
              exact ⟨rfl, by go_grown⟩
          case rest =>
            clear hw0 hw1 hxq c0 Hx
            obtain ⟨rfl, hbw⟩ := hcut
            have HBn := hide (HB.out.below hbw)
            have hbel2 := hbel.trans (hbw.mono hbel.size)
            clear HB hbel hbw
            have c0 := Below.some hbel2 (Hc.out 0 hn0)
            rw [Nat.add_zero] at c0
            have cp := Below.some hbel2 (Hc.out p hpn)
            obtain ⟨y1, y2⟩ := HGd.out.2 0 hn0
            obtain ⟨y3, y4⟩ := HGd.out.2 p hpn
            have hT := HT.out
            have hq1' : (q : Int) + 1 ≤ 4 * (n : Int) := by omega
            have hTb : T ≤ 536870912 := by omega
            go_wp2
            go_quiet (fail)
            go_upto_region 27 with (fail)
            go_cut [7, 11, 114] (fun s7 s11 s114 wr => s114 = .bool false ∧ s7 = .int .u64 sh ∧ s11 = .int .i64 ((q : Int) + 1) ∧ wr = wc.drewN nq)
            case first =>
              by_cases h4 : T + 1 ≤ 4 * n
              · have hs0 := shift_zero HBn.out.hbef h4
                have h4' : (T : Int) + 1 ≤ 4 * (n : Int) := by omega
                subst hs0
                go_wp2
                go_meet
                case rel => exact ⟨rfl, rfl, by go_num, rfl⟩
              · have h4' : decide ((T : Int) + 1 ≤ 4 * (n : Int)) = false := by simp; omega
                go_wp2
                go_meet
                case rel => exact ⟨rfl, rfl, by go_num, rfl⟩
            case rest =>
              clear c0 cp
              obtain ⟨rfl, rfl, rfl, hw⟩ := hcut
              have hbw : Below w1.heap.size w1 wc := by rw [hw]; exact below_drewN hbel2 _
              have HBw : Hid (Built wc X S sh q n T split z ca cc sv crv) := by rw [hw]; exact HBn.out.below (below_drewN (Below.refl _ _) _)
              clear hw HBn hbel2
              go_upto_region 29 with (fail)
              go_cut [1, 7, 124] (fun s1 s7 s124 wr => s124 = .bool false ∧ s1 = .bool split ∧ s7 = .int .u64 sh ∧ wr = wc)
              case first =>
                cases split
                · go_wp2
                  go_meet
                  case rel => exact ⟨rfl, rfl, rfl, rfl⟩
                · by_cases hs0 : sh = 0
                  · subst hs0
                    go_wp2
                    go_meet
                    case rel => exact ⟨rfl, rfl, rfl, rfl⟩
                  · have hqn := split_small HBw.out.hbef HBw.out.hlim hs0
                    have hqn' : (q : Int) + 1 ≤ (n : Int) := by omega
                    have hs1 : ((sh : Int) != 0) = true := by rw [bne_iff_ne]; omega
                    go_wp2
                    go_meet
                    case rel => exact ⟨by simp; omega, rfl, rfl, rfl⟩
              case rest =>
                obtain ⟨rfl, rfl, rfl, hw⟩ := hcut
                rw [← hw] at hbw HBw
                clear hw
                go_step
                go_step
                go_step
                go_step
                go_step
                exact tail5 b off n cap split z w1 wc X S sh q T cl cc ca sv crv hn0 h16 Hc HGd hsh hqb hclb Hcl hbw HBw _ _ _ _ _ _ _ _ _ _ _ _ _ _ _ _ _ _ _ _ _ _ _ _ _ _ _ _ _ _ _ _ _ _ _ _ _ _ _ _ _ _ _ _ _ _ _ _ _ _ _ _ _ _ _ _ _ _ _ _ _ _ _ _ _ _ _ _ _ _ _ _ _ _ _ _ _ _ _ _ _ _ _ _ _ _ _ _ _ _ _ _ _ _ _ _ _ _ _ _ _ _ _ _ _ _ _ _ _ _ _ _ _ _ _ _ _ _ _ _ _ _ _ _ _ _ _ _ _ _ _ _ _ _ _ _ _ _ _ _ _ _ _ _ _ _ _ _ _ _ _ _ _ _ _ _ _ _ _ _ _ _ _ _ _ _ _ _ _ _ _ _ _ _ _ _ _ _ _ _ _ _ _ _ _ _ _ _ _ _ _ _ _ _ _ _ _ _ _ _ _
end Go.Proofs.Qxb6001336a
