import Derived.Test.Qxb6001336aMake
namespace Go.Proofs.Qxb6001336a
open Go.RowKit

set_option maxRecDepth 100000 in
set_option maxHeartbeats 4000000 in
theorem law4 (a : Option Addr) (n cap : Nat) (split : Bool) (d : Int) (z : Nat → Int) (w : World) (hr : Row .i32 w a n z) (hn : n ≤ maxLen) :
    Calls Try.prog 4 #[.slice a n cap, .bool split, .int .i32 d] w fun e w' => e = .returned (.bool true) ∧ Below w.heap.size w w' := by
  have HR := hide hr
  clear hr
  have hnm := hn
  unfold maxLen at hn
  by_cases h20 : n ≤ 1048576
  · by_cases h16 : n ≤ 65536
    · by_cases hd1 : d < -268435456
      · go_enter Try.func4, Try.ntmps4
        go_wp2_with (go_at_call 13; refine (bytes13 _ _ _ _ _ _ hnm).mono ?_; rintro e w' ⟨rfl, rfl⟩)
        go_ret
        exact ⟨rfl, Below.refl _ _⟩
      by_cases hd2 : 268435456 < d
      · go_enter Try.func4, Try.ntmps4
        go_wp2_with (go_at_call 13; refine (bytes13 _ _ _ _ _ _ hnm).mono ?_; rintro e w' ⟨rfl, rfl⟩)
        go_ret
        exact ⟨rfl, Below.refl _ _⟩
      go_enter Try.func4, Try.ntmps4
      go_upto_region 9 with (first | (go_at_call 13; refine (bytes13 _ _ _ _ _ _ hnm).mono ?_; rintro e w' ⟨rfl, rfl⟩) | (go_at_call 7; refine (asc_any _ _ _ z _ HR.out h16).mono ?_; rintro e w' ⟨r, rfl, hgood, qa, rfl⟩; have HG := hide hgood; clear hgood; cases r))
      · go_ret
        exact ⟨rfl, below_drewN (Below.refl _ _) _⟩
      · have hG : Good z n := by first | exact HG.out rfl | exact HG.out trivial
        have HGd := hide hG
        clear hG HG
        go_cut [7] (fun s7 wr => ∃ X, s7 = .pointer (some ⟨X, 0, none⟩) ∧ IdxOK wr X 0 z n ∧ Below w'.heap.size w' wr)
        case first =>
          go_wp2_with (first
            | (go_at_call 9; refine (dates_any _ _ _ z _ (HR.out.below (below_drewN (Below.refl _ _) _)) h16).mono ?_; rintro e w1 ⟨sb, rfl, hsb, hrow, hb1⟩; have Hrow := hide hrow; have HB1 := hide hb1; clear hrow hb1)
            | (go_at_call 8; refine (zznew_ok sb n split z _ h16 HGd.out Hrow.out).mono ?_; rintro e w2 ⟨f, s, sh, st, ca, cr, rfl, six, hb2, hok⟩; have HB2 := hide hb2; have HOK := hide hok; clear hb2 hok; have o0 := six.h0; have o1 := six.h1; have o2 := six.h2; have o3 := six.h3; have o4 := six.h4; have o5 := six.h5)
            | ((with_reducible show wpList _ _ _ _ _ _); refine wpList_store_row rfl 32 (.tmp 7) (.tmp 32) rfl w2.heap.size #[f, s, sh, st, ca, cr] rfl rfl 32 _ (XRow.new w2 _ _ _ _ _ _) Try.size32 rfl (one6 o0 o1 o2 o3 o4 o5) ?_))
          go_meet
          case rel =>
            have hbb : Below w2.heap.size w2 ((w2.alloc (.cells #[.int .i32 0, .slice none 0 0, .int .u64 0, .slice none 0 0, .slice none 0 0, .slice none 0 0] 32)).setRow w2.heap.size #[f, s, sh, st, ca, cr]) := below_setRow ((Below.refl _ _).alloc (Nat.le_refl _) _) (Nat.le_refl _) _
            refine ⟨w2.heap.size, rfl, HOK.out _ _ hbb (setRow_heap _ _ _ _ _ _ (XRow.new w2 _ _ _ _ _ _)), ?_⟩
            have b1 : Below w'.heap.size w' w1 := (below_drewN (Below.refl _ _) qa).trans HB1.out
            have b2 := b1.trans (HB2.out.mono b1.size)
            exact b2.trans (hbb.mono b2.size)
        case rest =>
          obtain ⟨X, rfl, hok, hbel⟩ := hcut
          have HOK := hide hok
          clear hok
          go_wp2_with (go_at_call 11; refine (fromdays_any _ _).mono ?_; rintro e w1 ⟨rfl, rfl⟩)
          have hd0 : ((wc.alloc (.cells #[.int .i32 d] 26)).alloc (.cells #[.int .i32 d] 26)).cell? ⟨wc.heap.size + 1, 0, none⟩ = some (.int .i32 d) := by simp
          have hbW : Below wc.heap.size wc ((wc.alloc (.cells #[.int .i32 d] 26)).alloc (.cells #[.int .i32 d] 26)).drew := by go_grown
          have HBW := hide hbW
          clear hbW
          go_cut [39] (fun s39 wr => s39 = .bool false ∧ Below w'.heap.size w' wr ∧ IdxOK wr X 0 z n)
          case first =>
            go_region_held3 (fun v => v.cell? ⟨wc.heap.size + 1, 0, none⟩ = some (.int .i32 d))
              (first | exact hd0 | exact Below.some HB5.out hd0 | exact Below.some HB6.out (Below.some HB5.out hd0))
              (first
                | (go_at_call 14; refine (zzbefore_ok (HOK.out.below HBW.out) d (by omega) (by omega)).mono ?_; rintro e w5 ⟨rfl, hb5⟩; have HB5 := hide hb5; clear hb5)
                | (go_at_call 10; refine (zzsearch_ok ((HOK.out.below HBW.out).below HB5.out) d (by omega) (by omega)).mono ?_; rintro e w6 ⟨rfl, hb6⟩; have HB6 := hide hb6; clear hb6))
            go_wp2
            go_meet
            case rel =>
              have b1 := hbel.trans (HBW.out.mono hbel.size)
              have b2 := b1.trans (HB5.out.mono b1.size)
              exact ⟨by simp, b2.trans (HB6.out.mono b2.size), ((HOK.out.below HBW.out).below HB5.out).below HB6.out⟩
          case rest =>
            clear HOK hbel hd0 HBW
            obtain ⟨rfl, hbel, hok⟩ := hcut
            have HOK := hide hok
            clear hok
            go_wp2
            go_loopw [9] (fun i wr => ∃ k : Nat, k ≤ n ∧ i = .int .i64 k ∧ Below w'.heap.size w' wr ∧ IdxOK wr X 0 z n) (fun i _ => n - (intOf i).toNat)
            case atStart => exact ⟨0, Nat.zero_le _, rfl, hbel, HOK.out⟩
            case round =>
              clear HOK hbel
              obtain ⟨k, hk, rfl, hbel, hok⟩ := hrel
              have HOK := hide hok
              clear hok
              by_cases hkn : k < n
              · rcases HR.out with hn0 | ⟨b, off, rfl, hlt, hc⟩
                · omega
                · obtain ⟨d1, d2⟩ := HGd.out.2 k hkn
                  have Hck := hide (hc k hkn)
                  clear hc
                  go_wp2
                  go_loopw [10] (fun o wr => ∃ q : Int, -1 ≤ q ∧ q ≤ 2 ∧ o = .int .i32 q ∧ Below w'.heap.size w' wr ∧ IdxOK wr X 0 z n) (fun o _ => (2 - intOf o).toNat)
                  case atStart => exact ⟨-1, by omega, by omega, rfl, hbel, HOK.out⟩
                  case round =>
                    clear HOK hbel
                    obtain ⟨q, hq1, hq2, rfl, hbel, hok⟩ := hrel
                    have HOK := hide hok
                    clear hok
                    by_cases hqq : q ≤ 1
                    · have hck := Below.some hbel Hck.out
                      go_wp2_with (go_at_call 11; refine (fromdays_any _ _).mono ?_; rintro e w1 ⟨rfl, rfl⟩)
                      have hd0 : ((wr.alloc (.cells #[.int .i32 (z k + q)] 26)).alloc (.cells #[.int .i32 (z k + q)] 26)).cell? ⟨wr.heap.size + 1, 0, none⟩ = some (.int .i32 (z k + q)) := by simp
                      have hbW : Below wr.heap.size wr ((wr.alloc (.cells #[.int .i32 (z k + q)] 26)).alloc (.cells #[.int .i32 (z k + q)] 26)).drew := by go_grown
                      have HBW := hide hbW
                      clear hbW
                      go_region_held3 (fun v => v.cell? ⟨wr.heap.size + 1, 0, none⟩ = some (.int .i32 (z k + q)))
                        (first | exact hd0 | exact Below.some HB5.out hd0 | exact Below.some HB6.out (Below.some HB5.out hd0))
                        (first
                          | (go_at_call 14; refine (zzbefore_ok (HOK.out.below HBW.out) (z k + q) (by omega) (by omega)).mono ?_; rintro e w5 ⟨rfl, hb5⟩; have HB5 := hide hb5; clear hb5)
                          | (go_at_call 10; refine (zzsearch_ok ((HOK.out.below HBW.out).below HB5.out) (z k + q) (by omega) (by omega)).mono ?_; rintro e w6 ⟨rfl, hb6⟩; have HB6 := hide hb6; clear hb6))
                      go_wp2
                      go_roundw
                      case rel =>
                        have b1 := hbel.trans (HBW.out.mono hbel.size)
                        have b2 := b1.trans (HB5.out.mono b1.size)
                        exact ⟨q + 1, by omega, by omega, by go_num, b2.trans (HB6.out.mono b2.size), ((HOK.out.below HBW.out).below HB5.out).below HB6.out⟩
                      case measure => simp [intOf]; omega
                    · go_wp2
                      go_roundw
                      case rel => exact ⟨k + 1, by omega, by go_num, hbel, HOK.out⟩
                      case measure => simp [intOf]; omega
              · go_wp2
                go_ret
                exact ⟨rfl, hbel⟩
    · go_enter Try.func4, Try.ntmps4
      go_wp2_with (go_at_call 13; refine (bytes13 _ _ _ _ _ _ hnm).mono ?_; rintro e w' ⟨rfl, rfl⟩)
      go_ret
      exact ⟨rfl, Below.refl _ _⟩
  · go_enter Try.func4, Try.ntmps4
    go_wp2_with (go_at_call 13; refine (bytes13 _ _ _ _ _ _ hnm).mono ?_; rintro e w' ⟨rfl, rfl⟩)
    go_ret
    exact ⟨rfl, Below.refl _ _⟩
end Go.Proofs.Qxb6001336a
