import Derived.Test.Qxb6001336aNApp
import Derived.Deep.RegionLaw
namespace Go.Proofs.Qxb6001336a
open Go.RowKit

set_option maxRecDepth 100000 in
set_option maxHeartbeats 4000000 in
theorem new_any (sb so p cap T : Nat) (split : Bool) (z : Nat → Int) (w : World) (hn : p + 1 ≤ 65536)
    (hcap : p + 1 ≤ cap) (hs : ∀ i, i < p + 1 → w.cell? ⟨sb, so + i, none⟩ = some (.int .i32 (z i))) (hg : Good z (p + 1)) (hT : z p - z 0 = (T : Int))
    (ih : split = true → NewFalse sb) :
    Calls Try.prog 21 #[.slice (some ⟨sb, so, none⟩) (p + 1) cap, .bool split] w (NewP w sb so (p + 1) cap T split z) := by
  have Hih := hide ih
  clear ih
  have Hs := hide hs
  have h0 := hs 0 (by omega)
  rw [Nat.add_zero] at h0
  have h1 := hs p (by omega)
  obtain ⟨b1, b2⟩ := hg.2 0 (by omega)
  obtain ⟨b3, b4⟩ := hg.2 p (by omega)
  have b6 : T ≤ 536870912 := by omega
  have Hg := hide hg
  clear hs hg
  have hsb := World.block_lt_of_cell? w _ h0
  simp only [] at hsb
  have hsb1 : sb < w.heap.size + 1 := by omega
  have hsb2 : sb < w.heap.size + 1 + 1 := by omega
  go_enter Try.func21, Try.ntmps21
  go_wp2
  go_cut [4, 5, 6, 7] (fun s4 s5 s6 s7 wr => ∃ N X, s4 = .pointer (some ⟨N, 0, none⟩) ∧ s5 = .pointer (some ⟨X, 0, none⟩) ∧ s6 = .int .i64 ((T : Int) + 1) ∧ s7 = .int .i64 (4 * (p + 1 : Nat)) ∧
    ∃ st, NW w wr N X (.int .i32 (z 0)) (.slice (some ⟨sb, so, none⟩) (p + 1) cap) (.int .u64 0) st (.slice none 0 0) (.slice none 0 0))
  case first =>
    have hX := XRow.new ((w.alloc (Obj.cells #[Value.int IntKind.i32 0, Value.slice none 0 0, Value.int IntKind.u64 0, Value.slice none 0 0, Value.slice none 0 0, Value.slice none 0 0] 32)).alloc (Obj.cells #[Value.int IntKind.i32 0] 21)) (.int .i32 (z 0)) (.slice (some ⟨sb, so, none⟩) (p + 1) cap) (.int .u64 0) (.slice (some ⟨w.heap.size + 1, 0, none⟩) 1 1) (.slice none 0 0) (.slice none 0 0)
    have hXs : ((w.alloc (Obj.cells #[Value.int IntKind.i32 0, Value.slice none 0 0, Value.int IntKind.u64 0, Value.slice none 0 0, Value.slice none 0 0, Value.slice none 0 0] 32)).alloc (Obj.cells #[Value.int IntKind.i32 0] 21)).heap.size = w.heap.size + 1 + 1 := by simp
    rw [hXs] at hX
    clear hXs
    have hX0 := hX.cell 0
    have hpw1 : IntKind.i64.wrap ((p : Int) + 1 - 1) = (p : Int) := by rw [IntKind.wrap_i64]; omega
    have hpw2 : IntKind.i64.wrap (p : Int) = (p : Int) := by rw [IntKind.wrap_i64]; omega
    have hpw3 : (0 : Int) ≤ (p : Int) := by omega
    have hpw4 : (p : Int) < (p : Int) + 1 := by omega
    have hpw5 : IntKind.i64.wrap ((T : Int) + 1) = (T : Int) + 1 := by rw [IntKind.wrap_i64]; omega
    have hpw6 : IntKind.i64.wrap (4 * ((p : Int) + 1)) = 4 * ((p : Int) + 1) := by rw [IntKind.wrap_i64]; omega
    have HX := hide hX
    have HR := hide ((XRow.new w (.int .i32 0) (.slice none 0 0) (.int .u64 0) (.slice none 0 0) (.slice none 0 0) (.slice none 0 0)).alloc (Obj.cells #[Value.int IntKind.i32 0] 21))
    clear hX
    go_region_held3 (fun w' => w'.cell? ⟨sb, so + p, none⟩ = some (.int .i32 (z p)) ∧ w'.cell? ⟨w.heap.size + 1 + 1, 0, none⟩ = some (.int .i32 (z 0)))
      (exact ⟨Below.some (w := w) (by go_grown) h1, Below.some (by go_grown) hX0⟩)
      (first | (go_at_call 24; refine (sub_any _ _ _ (by omega) (by omega) (by omega) (by omega)).mono ?_; rintro e w' ⟨rfl, rfl⟩))
    go_wp2
    go_meet
    case rel =>
      refine ⟨w.heap.size, w.heap.size + 1 + 1, rfl, rfl, rfl, by go_num, .slice (some ⟨w.heap.size + 1, 0, none⟩) 1 1, by go_grown, Nat.le_refl _, by omega, ?_, ?_⟩
      · exact ((HR.out.alloc _).alloc _).alloc _
      · exact (HX.out.alloc _).alloc _
  case rest =>
    obtain ⟨N, X, rfl, rfl, rfl, rfl, st, hW⟩ := hcut
    have HT := hide hT
    clear h0 h1 hsb hsb1 hsb2 hT
    obtain ⟨big, hbig⟩ : ∃ big : Bool, big = decide (split = true ∧ 4 * (p + 1) < T + 1) := ⟨_, rfl⟩
    have Hbig := hide hbig
    clear hbig
    go_upto_region 6 with (fail)
    go_cut [1, 44] (fun s1 s44 wr => s1 = .bool split ∧ s44 = .bool big ∧ NW w wr N X (.int .i32 (z 0)) (.slice (some ⟨sb, so, none⟩) (p + 1) cap) (.int .u64 0) st (.slice none 0 0) (.slice none 0 0))
    case first =>
      cases split
      · go_wp2
        go_meet
        case rel => exact ⟨rfl, by rw [Hbig.out]; simp, hW⟩
      · by_cases hc : 4 * (p + 1) < T + 1
        · go_wp2
          go_meet
          case rel => exact ⟨rfl, by rw [Hbig.out]; simp [hc]; omega, hW⟩
        · go_wp2
          go_meet
          case rel => exact ⟨rfl, by rw [Hbig.out]; simp [hc]; omega, hW⟩
    case rest =>
      clear hW
      obtain ⟨rfl, rfl, hW⟩ := hcut
      obtain ⟨lim, hlim⟩ : ∃ lim, lim = limOf split (p + 1) T := ⟨_, rfl⟩
      have hlim0 : 1 ≤ lim := by rw [hlim]; unfold limOf; split <;> omega
      have hlim1 : lim ≤ 4 * (p + 1) := by rw [hlim]; unfold limOf; split <;> omega
      have hlim2 : lim = if big = true then p + 1 else 4 * (p + 1) := by rw [hlim, Hbig.out]; unfold limOf; simp
      have Hlim := hide hlim
      have Hlim2 := hide hlim2
      clear hlim hlim2
      go_upto_if 44 with (fail)
      go_cut [7] (fun s7 wr => s7 = .int .i64 lim ∧ NW w wr N X (.int .i32 (z 0)) (.slice (some ⟨sb, so, none⟩) (p + 1) cap) (.int .u64 0) st (.slice none 0 0) (.slice none 0 0))
      case first =>
        cases big
        · go_wp2
          go_meet
          case rel => exact ⟨by rw [Hlim2.out]; simp, hW⟩
        · go_wp2
          go_meet
          case rel => exact ⟨by rw [Hlim2.out]; simp, hW⟩
      case rest =>
        clear hW
        obtain ⟨rfl, hW⟩ := hcut
        go_wp2
        go_loopg [47] 31 (fun k _ wr => ∃ sh, k = 31 - sh ∧ sh ≤ 30 ∧ (∀ t, t < sh → lim ≤ T / 2 ^ t) ∧ NW w wr N X (.int .i32 (z 0)) (.slice (some ⟨sb, so, none⟩) (p + 1) cap) (.int .u64 sh) st (.slice none 0 0) (.slice none 0 0))
        case atStart => exact ⟨0, rfl, by omega, fun t h => by omega, hW⟩
        case round =>
          clear hW
          obtain ⟨sh, rfl, hsh, hbef, hW⟩ := hrel
          have Hbef := hide hbef
          clear hbef
          have c2 : wr.cell? ⟨X, 2, none⟩ = some (.int .u64 sh) := hW.x.cell 2
          have f2 := hW.x.frozen 2
          have hmin : min sh 64 = sh := by omega
          obtain ⟨q, hq⟩ : ∃ q, q = T / 2 ^ sh := ⟨_, rfl⟩
          have hq' : (T : Int) / 2 ^ sh = (q : Int) := by rw [hq]; exact div_cast T sh
          by_cases hc : lim ≤ q
          · have hsh' : sh ≤ 29 := pow_le_of_div (by rw [← hq]; omega) b6
            have Hq := hide hq
            clear hq
            go_wp2
            go_roundg (31 - (sh + 1))
            case measure => omega
            case rel =>
              refine ⟨sh + 1, rfl, by omega, fun t ht => ?_, hW.set2 _⟩
              rcases Nat.lt_or_ge t sh with h | h
              · exact Hbef.out t h
              · have : t = sh := by omega
                rw [this, ← Hq.out]; exact hc
          · have Hq := hide hq
            clear hq
            have hqb : q < 4 * 65536 := by omega
            have Hqlt : Hid (q < lim) := by show q < lim; omega
            have f3 := hW.x.frozen 3
            have c3 : wr.cell? ⟨X, 3, none⟩ = some st := hW.x.cell 3
            have hXlt := hW.x.lt
            have hmk := make_starts q (by omega)
            clear f2
            have Hasc : Hid (Asc z (p + 1)) := Hg.out.1
            have Hqat : Hid (q = atOf z sh p) := by
              rw [Hq.out]; unfold atOf; rw [Hid.out HT, div_cast]; rfl
            go_upto_region 10 with (fail)
            go_cut [6] (fun _ wr => ∃ S, N < S ∧ X < S ∧ wr.rowIs S 21 (q + 2) (fun _ => .int .i32 0) ∧ NW w wr N X (.int .i32 (z 0)) (.slice (some ⟨sb, so, none⟩) (p + 1) cap) (.int .u64 sh) (.slice (some ⟨S, 0, none⟩) (q + 2) (q + 2)) (.slice none 0 0) (.slice none 0 0))
            case first =>
              go_wp2
              go_meet
              case rel =>
                refine ⟨wr.heap.size, by have := hW.lt; omega, hXlt, ?_, (hW.set3 _).alloc _⟩
                have := World.rowIs_made (wr.setCell ⟨X, 3, none⟩ (Value.slice (some ⟨wr.heap.size, 0, none⟩) (q + 2) (q + 2))) (.int .i32 0) (q + 2) 21
                rw [World.size_setCell] at this
                exact this
            case rest =>
              clear hW c3 f3 hmk c2 hXlt hc hq'
              obtain ⟨S, hNS, hXS, hrow, hW⟩ := hcut
              go_wp2
              go_loopg [8, 68] (p + 1) (fun g s8 s68 wr => ∃ j : Nat, j ≤ p + 1 ∧ g = p + 1 - j ∧ s68 = .int .i64 j ∧ s8 = .int .i64 (kOf z sh j) ∧ wr.rowIs S 21 (q + 2) (fun i => .int .i32 (if i < kOf z sh j then Sc z (p + 1) sh i else 0)) ∧
                NW w wr N X (.int .i32 (z 0)) (.slice (some ⟨sb, so, none⟩) (p + 1) cap) (.int .u64 sh) (.slice (some ⟨S, 0, none⟩) (q + 2) (q + 2)) (.slice none 0 0) (.slice none 0 0))
              case atStart =>
                refine ⟨0, by omega, rfl, rfl, rfl, hrow.congr (fun i hi => ?_), hW⟩
                by_cases h : i < 1
                · have : i = 0 := by omega
                  subst this
                  simp [kOf, Sc_zero z Hasc.out]
                · simp [kOf, h]
              case round =>
                clear hrow hW
                obtain ⟨j, hj, rfl, rfl, rfl, hrow, hW⟩ := hrel
                by_cases hjn : j < p + 1
                · have hcj := Below.some hW.bel (Hs.out j hjn)
                  have hjn' : (j : Int) < (p : Int) + 1 := by omega
                  have Hrow := hide hrow
                  have HW := hide hW
                  clear hrow hW
                  have hat := atOf_cast Hasc.out hjn sh
                  have hatq : atOf z sh j ≤ q := by rw [Hqat.out]; exact atOf_mono Hasc.out (by omega) (by omega) sh
                  have hkat := kOf_le Hasc.out hjn sh
                  obtain ⟨d1, d2⟩ := Hg.out.2 j hjn
                  have x0 : wr.cell? ⟨X, 0, none⟩ = some (.int .i32 (z 0)) := HW.out.x.cell 0
                  have x2 : wr.cell? ⟨X, 2, none⟩ = some (.int .u64 sh) := HW.out.x.cell 2
                  go_wp2
                  go_cut [11] (fun s11 wk => s11 = .int .i64 (atOf z sh j) ∧ wk.rowIs S 21 (q + 2) (fun i => .int .i32 (if i < kOf z sh j then Sc z (p + 1) sh i else 0)) ∧
                    NW w wk N X (.int .i32 (z 0)) (.slice (some ⟨sb, so, none⟩) (p + 1) cap) (.int .u64 sh) (.slice (some ⟨S, 0, none⟩) (q + 2) (q + 2)) (.slice none 0 0) (.slice none 0 0))
                  case first =>
                    go_region_held3 (fun w' => w'.cell? ⟨wr.heap.size, 0, none⟩ = some (.int .i32 (z j)) ∧ w'.cell? ⟨X, 0, none⟩ = some (.int .i32 (z 0)) ∧ w'.cell? ⟨X, 2, none⟩ = some (.int .u64 sh))
                      (exact ⟨Below.some (w := wr.alloc (.cells #[.int .i32 (z j)] 26)) (by go_grown) (by simp), Below.some (w := wr) (by go_grown) x0, Below.some (w := wr) (by go_grown) x2⟩)
                      (first | (go_at_call 24; refine (sub_any _ _ _ (by omega) (by omega) (by omega) (by omega)).mono ?_; rintro e w' ⟨rfl, rfl⟩))
                    go_wp2
                    go_meet
                    case rel => exact ⟨rfl, ((Hrow.out.alloc _).alloc _).alloc _, (((HW.out.alloc _).alloc _).alloc _).drew⟩
                  case rest =>
                    clear Hrow HW x0 x2 hcj hat d1 d2
                    obtain ⟨rfl, hrow, hW⟩ := hcut
                    go_wp2
                    go_loopg [8] (atOf z sh j + 1 - kOf z sh j) (fun g s8 wr => ∃ k : Nat, kOf z sh j ≤ k ∧ k ≤ atOf z sh j + 1 ∧ g = atOf z sh j + 1 - k ∧ s8 = .int .i64 k ∧ wr.rowIs S 21 (q + 2) (fun i => .int .i32 (if i < k then Sc z (p + 1) sh i else 0)) ∧
                      NW w wr N X (.int .i32 (z 0)) (.slice (some ⟨sb, so, none⟩) (p + 1) cap) (.int .u64 sh) (.slice (some ⟨S, 0, none⟩) (q + 2) (q + 2)) (.slice none 0 0) (.slice none 0 0))
                    case atStart => exact ⟨_, Nat.le_refl _, hkat, rfl, rfl, hrow, hW⟩
                    case round =>
                      clear hrow hW
                      obtain ⟨k, hk1, hk2, rfl, rfl, hrow, hW⟩ := hrel
                      by_cases hka : k ≤ atOf z sh j
                      · have x3 : wr.cell? ⟨X, 3, none⟩ = some (.slice (some ⟨S, 0, none⟩) (q + 2) (q + 2)) := hW.x.cell 3
                        have r1 := hrow.cell (i := k) (by omega)
                        have r2 := hrow.frozen k
                        have hkq : (k : Int) < (q : Int) + 2 := by omega
                        have Hrow := hide hrow
                        have HW := hide hW
                        clear hrow hW
                        go_wp2
                        go_roundg (atOf z sh j + 1 - (k + 1))
                        case measure => omega
                        case rel =>
                          refine ⟨k + 1, by omega, by omega, rfl, by go_num, (Hrow.out.set k _).congr (fun i hi => ?_), HW.out.setOther (by show X ≠ S; omega) (by show N ≠ S; omega) (by show _ ≤ S; have := HW.out.lo; omega) _⟩
                          by_cases e : i = k
                          · subst e
                            rw [if_pos rfl, if_pos (by omega), Sc_between Hasc.out hjn sh hk1 hka]
                          · rw [if_neg e]
                            by_cases h : i < k
                            · rw [if_pos h, if_pos (by omega)]
                            · rw [if_neg h, if_neg (by omega)]
                      · have e : k = kOf z sh (j + 1) := by simp only [kOf]; omega
                        subst e
                        go_wp2
                        go_roundg (p + 1 - (j + 1))
                        case measure => omega
                        case rel => exact ⟨j + 1, by omega, rfl, by go_num, rfl, hrow, hW⟩
                · obtain rfl : j = p + 1 := by omega
                  have hkO : kOf z sh (p + 1) = q + 1 := by rw [Hqat.out]; rfl
                  simp only [hkO] at hrow ⊢
                  clear hkO
                  go_wp2
                  go_loopg [8] 1 (fun g s8 wr => ∃ k : Nat, q + 1 ≤ k ∧ k ≤ q + 2 ∧ g = q + 2 - k ∧ s8 = .int .i64 k ∧ wr.rowIs S 21 (q + 2) (fun i => .int .i32 (if i < k then Sc z (p + 1) sh i else 0)) ∧
                      NW w wr N X (.int .i32 (z 0)) (.slice (some ⟨sb, so, none⟩) (p + 1) cap) (.int .u64 sh) (.slice (some ⟨S, 0, none⟩) (q + 2) (q + 2)) (.slice none 0 0) (.slice none 0 0))
                  case atStart => exact ⟨q + 1, by omega, by omega, by omega, by go_num, hrow, hW⟩
                  case round =>
                    clear hrow hW
                    obtain ⟨k, hk1, hk2, rfl, rfl, hrow, hW⟩ := hrel
                    have x3 : wr.cell? ⟨X, 3, none⟩ = some (.slice (some ⟨S, 0, none⟩) (q + 2) (q + 2)) := hW.x.cell 3
                    by_cases hka : k < q + 2
                    · have r1 := hrow.cell (i := k) (by omega)
                      have r2 := hrow.frozen k
                      have hkq : (k : Int) < (q : Int) + 2 := by omega
                      have Hrow := hide hrow
                      have HW := hide hW
                      clear hrow hW
                      go_wp2
                      go_roundg (q + 2 - (k + 1))
                      case measure => omega
                      case rel =>
                        refine ⟨k + 1, by omega, by omega, rfl, by go_num, (Hrow.out.set k _).congr (fun i hi => ?_), HW.out.setOther (by show X ≠ S; omega) (by show N ≠ S; omega) (by show _ ≤ S; have := HW.out.lo; omega) _⟩
                        by_cases e : i = k
                        · subst e
                          have hl : Sc z (p + 1) sh i = p + 1 := Sc_last Hasc.out sh (fun t ht => by have := atOf_mono Hasc.out (i := t) (j := p) (by omega) (by omega) sh; rw [← Hqat.out] at this; omega)
                          rw [if_pos rfl, if_pos (by omega), hl]
                          go_num
                        · rw [if_neg e]
                          by_cases h : i < k
                          · rw [if_pos h, if_pos (by omega)]
                          · rw [if_neg h, if_neg (by omega)]
                    · have hrow' : wr.rowIs S 21 (q + 2) (fun i => .int .i32 (Sc z (p + 1) sh i)) := hrow.congr (fun i hi => by rw [if_pos (by omega)])
                      clear hrow
                      obtain rfl : k = q + 2 := by omega
                      have Hrow := hide hrow'
                      have x2 : wr.cell? ⟨X, 2, none⟩ = some (.int .u64 sh) := hW.x.cell 2
                      have HW := hide hW
                      clear hrow' hW
                      have Hend : Hid (Sc z (p + 1) sh (q + 1) = p + 1) :=
                        Sc_last Hasc.out sh (fun t ht => by have := atOf_mono Hasc.out (i := t) (j := p) (by omega) (by omega) sh; rw [← Hqat.out] at this; omega)
                      have Hqlim : Hid (q < limOf split (p + 1) T) := by rw [← Hlim.out]; exact Hqlt.out
                      have Hbef' : Hid (∀ t, t < sh → limOf split (p + 1) T ≤ T / 2 ^ t) := by intro t ht; rw [← Hlim.out]; exact Hbef.out t ht
                      cases split
                      · go_upto_region 24 with (fail)
                        refine wp_copyx HW.out.x HW.out.res rfl rfl rfl rfl rfl rfl rfl rfl (by decide) (by simp) ?_
                        intro a' e4 hd
                        go_wp2
                        refine bodyPost_x HW.out.res e4 hd ?_
                        exact ⟨sh, q, S, _, _, rfl, hsh, Hq.out, Hqlim.out, Hbef'.out, Hend.out, by have := HW.out.lo; omega, Hrow.out.of_block (setRow_other _ _ _ _ (by omega)), below_setRow HW.out.bel HW.out.lo _, fun _ => ⟨rfl, rfl⟩, fun h => by cases h⟩
                      · by_cases hsh0 : sh = 0
                        · subst hsh0
                          go_upto_region 24 with (fail)
                          refine wp_copyx HW.out.x HW.out.res rfl rfl rfl rfl rfl rfl rfl rfl (by decide) (by simp) ?_
                          intro a' e4 hd
                          go_wp2
                          refine bodyPost_x HW.out.res e4 hd ?_
                          exact ⟨0, q, S, _, _, rfl, hsh, Hq.out, Hqlim.out, Hbef'.out, Hend.out, by have := HW.out.lo; omega, Hrow.out.of_block (setRow_other _ _ _ _ (by omega)), below_setRow HW.out.bel HW.out.lo _, fun _ => ⟨rfl, rfl⟩, fun _ h => absurd rfl h⟩
                        · have hsh0' : ((sh : Int) == 0) = false := by simp; omega
                          go_wp2_with fail
                          go_loopg [118] (q + 1) (fun g s118 wr => ∃ K : Nat, K ≤ q + 1 ∧ g = q + 1 - K ∧ s118 = .int .i64 K ∧ ∃ cav crv, NW w wr N X (.int .i32 (z 0)) (.slice (some ⟨sb, so, none⟩) (p + 1) cap) (.int .u64 sh) (.slice (some ⟨S, 0, none⟩) (q + 2) (q + 2)) cav crv ∧
                            wr.rowIs S 21 (q + 2) (fun i => .int .i32 (Sc z (p + 1) sh i)) ∧ CrowdA wr (X + 1) (crowdAt z (p + 1) sh K) cav ∧ CrowdR wr (X + 1) sb so (p + 1) z sh (crowdAt z (p + 1) sh K) crv)
                          case atStart =>
                            refine ⟨0, by omega, rfl, rfl, _, _, HW.out, Hrow.out, World.ownsRow_nil _ _ _ _, [], rfl, World.ownsRow_nil _ _ _ _, by simp, fun i k h => by simp [crowdAt] at h⟩
                          case round =>
                            clear x3 x2 Hrow HW
                            obtain ⟨K, hK, rfl, rfl, cav, crv, hW, hrow, hA, hR⟩ := hrel
                            by_cases hKq : K < q + 1
                            · have x3 : wr.cell? ⟨X, 3, none⟩ = some (.slice (some ⟨S, 0, none⟩) (q + 2) (q + 2)) := hW.x.cell 3
                              have rA := hrow.cell (i := K) (by omega)
                              have rB := hrow.cell (i := K + 1) (by omega)
                              have hAB := Sc_mono z (p + 1) sh (i := K) (j := K + 1) (by omega)
                              have hBn := Sc_le z (p + 1) sh (K + 1)
                              obtain ⟨A, hAe⟩ : ∃ A, A = Sc z (p + 1) sh K := ⟨_, rfl⟩
                              obtain ⟨B, hBe⟩ : ∃ B, B = Sc z (p + 1) sh (K + 1) := ⟨_, rfl⟩
                              rw [← hAe] at rA hAB
                              rw [← hBe] at rB hAB hBn
                              have HAe := hide hAe
                              have HBe := hide hBe
                              have Hrow := hide hrow
                              have HW := hide hW
                              have HA := hide hA
                              have HR := hide hR
                              clear hAe hBe hrow hW hA hR
                              have hKi : (K : Int) < (q : Int) + 1 := by omega
                              have hKi' : (K : Int) < (q : Int) + 2 := by omega
                              by_cases hcr : (2 : Int) < (B : Int) - (A : Int)
                              · go_wp2
                                go_quiet (fail)
                                go_upto_region 30 with (fail)
                                have hlen := crowdAt_len z (p + 1) sh K
                                have x4 : wr.cell? ⟨X, 4, none⟩ = some cav := HW.out.x.cell 4
                                have hXlt := HW.out.x.lt
                                go_cut [13] (fun s13 wk => s13 = .int .i32 A ∧ ∃ g cp, NW w wk N X (.int .i32 (z 0)) (.slice (some ⟨sb, so, none⟩) (p + 1) cap) (.int .u64 sh) (.slice (some ⟨S, 0, none⟩) (q + 2) (q + 2)) (.slice (some ⟨g, 0, none⟩) ((crowdAt z (p + 1) sh K).length + 1) cp) crv ∧
                                  wk.rowIs S 21 (q + 2) (fun i => .int .i32 (Sc z (p + 1) sh i)) ∧ CrowdA wk (X + 1) (crowdAt z (p + 1) sh K ++ [K]) (.slice (some ⟨g, 0, none⟩) ((crowdAt z (p + 1) sh K).length + 1) cp) ∧ CrowdR wk (X + 1) sb so (p + 1) z sh (crowdAt z (p + 1) sh K) crv)
                                case first =>
                                  go_wp2_with (at_builtin; refine wpList_append_at rfl rfl rfl rfl (heap_alloc_new _ _) (HA.out.keep ((Keep.drewN _ _).trans (Keep.alloc _ _))) (by omega) (by simp; omega) ?_)
                                  intro g cp w1 hA1 hg1
                                  have HA2 : Hid (CrowdA ((wr.drewN nq).alloc (.cells #[.int .i64 (K : Int)] 3)) (X + 1) (crowdAt z (p + 1) sh K) cav) := HA.out.keep ((Keep.drewN _ _).trans (Keep.alloc _ _))
                                  have HW1 := hide (((HW.out.drewN nq).alloc (.cells #[.int .i64 (K : Int)] 3)).grown hg1 HA2.out)
                                  have K21 : Hid (Keep (X + 1) 21 wr w1) := ((Keep.drewN wr nq).trans (Keep.alloc _ _)).trans (Keep.grown hg1 HA2.out (by decide))
                                  have K32 : Hid (Keep (X + 1) 32 wr w1) := ((Keep.drewN wr nq).trans (Keep.alloc _ _)).trans (Keep.grown hg1 HA2.out (by decide))
                                  have HA1 := hide hA1
                                  clear hA1 hg1 x4
                                  have x4 : w1.cell? ⟨X, 4, none⟩ = some cav := HW1.out.x.cell 4
                                  have f4 := HW1.out.x.frozen 4
                                  go_wp2
                                  go_meet
                                  case rel =>
                                    exact ⟨rfl, g, cp, HW1.out.set4 _, rowIs_keep Hrow.out hXS (K21.out.trans (Keep.setCell _ (by show X < X + 1; omega) _)), HA1.out.keep (Keep.setCell _ (by show X < X + 1; omega) _), HR.out.keep (K32.out.trans (Keep.setCell _ (by show X < X + 1; omega) _)) (K21.out.trans (Keep.setCell _ (by show X < X + 1; omega) _))⟩
                                case rest =>
                                  clear HW Hrow HA HR x3 x4 hXlt rA rB
                                  obtain ⟨rfl, g, cp, hW, hrow, hA, hR⟩ := hcut
                                  have x5 : wc.cell? ⟨X, 5, none⟩ = some crv := hW.x.cell 5
                                  have f5 := hW.x.frozen 5
                                  have HW := hide hW
                                  have Hrow := hide hrow
                                  have HA := hide hA
                                  have HR := hide hR
                                  clear hW hrow hA hR
                                  have hA0 : (0 : Int) ≤ (A : Int) := by omega
                                  have hAB1 : (A : Int) ≤ (B : Int) := by omega
                                  have hBc : (B : Int) ≤ (cap : Int) := by omega
                                  have hAc : ¬ cap = A := by omega
                                  go_upto_region 31 with (fail)
                                  obtain ⟨ent, e1, e2, e3, e4⟩ := HR.out
                                  have HE2 := hide e2
                                  have HE := hide (And.intro e1 (And.intro e3 e4))
                                  clear e1 e2 e3 e4
                                  have Hcall : Hid (∀ w1, Below w.heap.size w w1 → Calls Try.prog 21 #[.slice (some ⟨sb, so + A, none⟩) (B - A) (cap - A), .bool false] w1 (fun e w' => ∃ sh' q' S' : Nat,
                                      e = .returned (.agg #[.int .i32 (z A), .slice (some ⟨sb, so + A, none⟩) (B - A) (cap - A), .int .u64 sh', .slice (some ⟨S', 0, none⟩) (q' + 2) (q' + 2), .slice none 0 0, .slice none 0 0]) ∧
                                      Below w1.heap.size w1 w' ∧ SubF w' w1.heap.size (B - A) (fun j => z (A + j)) sh' q' S')) :=
                                    fun w1 hw1 => sub_call (by first | exact Hih.out rfl | exact Hih.out trivial) (by omega) hBn hn hcap Hg.out (fun i hi => Below.some hw1 (Hs.out i hi))
                                  go_region_law (first
                                    | (go_simp; go_at_call 21; refine (Hcall.out _ (by exact HW.out.drew.bel)).mono ?_; rintro e w2 ⟨sh', q', S', rfl, hb2, hF⟩; have HF := hide (And.intro hb2 hF); have HW2 := hide (HW.out.drew.below hb2); have HO2 := hide ((ownsRow_keep HE2.out.drew (Keep.below hb2)).alloc (.cells #[.int .i32 (z A), .slice (some ⟨sb, so + A, none⟩) (B - A) (cap - A), .int .u64 sh', .slice (some ⟨S', 0, none⟩) (q' + 2) (q' + 2), .slice none 0 0, .slice none 0 0] 32)); have x5b : w2.cell? ⟨X, 5, none⟩ = some crv := HW2.out.x.cell 5; have f5b := HW2.out.x.frozen 5; have hXlt2 := HW2.out.x.lt; clear hb2 hF)
                                    | (refine step_append_cr rfl rfl rfl rfl (XRow.new _ _ _ _ _ _ _) rfl rfl rfl rfl rfl rfl HO2.out (by omega) (by simp; omega) ?_; intro g3 cp3 w3 hown3 hg3; have HW3 := hide ((HW2.out.alloc _).grown hg3 HO2.out); have HO3 := hide (And.intro hown3 hg3); clear hown3 hg3; have x5c : w3.cell? ⟨X, 5, none⟩ = some crv := HW3.out.x.cell 5; have f5c := HW3.out.x.frozen 5))
                                  all_goals
                                    have hlen2 : X + 1 ≤ wc.drew.heap.size := HW.out.x.lt
                                    have HL2 := hide hlen2
                                    clear hlen2
                                    go_wp2
                                    go_roundg (q + 1 - (K + 1))
                                    case measure => omega
                                    case rel =>
                                      have hm : 2 < Sc z (p + 1) sh (K + 1) - Sc z (p + 1) sh K := by rw [← HAe.out, ← HBe.out]; omega
                                      have k21 : Keep (X + 1) 21 w2 w3 := (Keep.alloc _ _).trans (Keep.grown HO3.out.2 HO2.out (by decide))
                                      have k3 : Keep (X + 1) 3 w2 w3 := (Keep.alloc _ _).trans (Keep.grown HO3.out.2 HO2.out (by decide))
                                      have j21 : Keep (X + 1) 21 wc w2 := (Keep.drew wc).trans (Keep.below HF.out.1)
                                      have j3 : Keep (X + 1) 3 wc w2 := (Keep.drew wc).trans (Keep.below HF.out.1)
                                      refine ⟨K + 1, by omega, rfl, by go_num, _, _, HW3.out.set5 _, rowIs_keep Hrow.out hXS ((j21.trans k21).trans (Keep.setCell _ (by show X < X + 1; omega) _)), ?_, ?_⟩
                                      · rw [crowdAt_hit hm]; exact HA.out.keep ((j3.trans k3).trans (Keep.setCell _ (by show X < X + 1; omega) _))
                                      · rw [crowdAt_hit hm]
                                        refine CrowdR.snoc HE.out.1 HE.out.2.1 HE.out.2.2 ((j21.trans k21).trans (Keep.setCell _ (by show X < X + 1; omega) _)) ?_ (ownsRow_keep HO3.out.1 (Keep.setCell _ (by show X < X + 1; omega) _))
                                        rw [← HAe.out, ← HBe.out]
                                        exact (SubF.subV HF.out.2 HL2.out).keep (k21.trans (Keep.setCell _ (by show X < X + 1; omega) _))
                              · go_wp2
                                go_quiet (fail)
                                go_wp2
                                go_roundg (q + 1 - (K + 1))
                                case measure => omega
                                case rel =>
                                  have hm : ¬ 2 < Sc z (p + 1) sh (K + 1) - Sc z (p + 1) sh K := by rw [← HAe.out, ← HBe.out]; omega
                                  refine ⟨K + 1, by omega, rfl, by go_num, cav, crv, HW.out.drewN _, Hrow.out, ?_, ?_⟩
                                  · rw [crowdAt_miss hm]; exact HA.out.keep (Keep.drewN _ _)
                                  · rw [crowdAt_miss hm]; exact HR.out.keep (Keep.drewN _ _) (Keep.drewN _ _)
                            · obtain rfl : K = q + 1 := by omega
                              have HW := hide hW
                              have Hrow := hide hrow
                              have HA := hide hA
                              have HR := hide hR
                              clear hW hrow hA hR
                              go_upto_region 33 with (fail)
                              refine wp_copyx HW.out.x HW.out.res rfl rfl rfl rfl (ownsRow_one HA.out) (crowdR_one HR.out) rfl rfl (by decide) (by simp) ?_
                              intro a' e4 hd
                              go_wp2
                              refine bodyPost_x HW.out.res e4 hd ?_
                              refine ⟨sh, q, S, cav, crv, rfl, hsh, Hq.out, Hqlim.out, Hbef'.out, Hend.out, by have := HW.out.lo; omega, Hrow.out.of_block (setRow_other _ _ _ _ (by omega)), below_setRow HW.out.bel HW.out.lo _, fun h => ?_, fun _ _ => ⟨X + 1, by have := HW.out.lo; have := HW.out.lt; omega, HA.out.keep (Keep.setRow _ (by have := HW.out.lt; omega) _), HR.out.keep (Keep.setRow _ (by have := HW.out.lt; omega) _) (Keep.setRow _ (by have := HW.out.lt; omega) _)⟩⟩
                              rcases h with h | h
                              · cases h
                              · exact absurd h hsh0
end Go.Proofs.Qxb6001336a
