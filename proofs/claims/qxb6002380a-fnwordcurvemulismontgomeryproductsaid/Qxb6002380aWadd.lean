import Derived.Test.Qxb6002380aAdd
import Derived.Test.Qxb6002380aSetU
import Derived.Laws.BitsAll
namespace Go.Proofs.Qxb6002380a
open Go.RowKit

/-- The sum mod p, for x and y below p. -/
def addm (p x y : Nat) : Nat := if x + y < p then x + y else x + y - p

theorem addm_of {p x y r : Nat} (hr : r < p) (h : r = x + y ∨ r + p = x + y) : r = addm p x y := by unfold addm; split <;> omega
theorem addm_comm (p x y : Nat) : addm p x y = addm p y x := by unfold addm; rw [Nat.add_comm]
theorem addm_lt {p x y : Nat} (hx : x < p) (hy : y < p) : addm p x y < p := by unfold addm; split <;> omega

set_option maxRecDepth 100000 in
/-- zzAddMod. -/
theorem mod22 (p x y : Nat) (hp : p < 18446744073709551616) (hx : x < p) (hy : y < p) (w : World) :
    Calls Try.prog 22 #[.int .u64 x, .int .u64 y, .int .u64 p] w fun e w' => e = .returned (.int .u64 (addm p x y : Nat)) ∧ w' = w := by
  by_cases hc : x + y < 18446744073709551616
  · have h0 : ¬ ((x : Int) + y < x) := by omega
    by_cases h1 : x + y < p
    · have h1' : ¬ ((p : Int) ≤ (x : Int) + y) := by omega
      have Hr : Hid (addm p x y = x + y) := hide (by unfold addm; rw [if_pos h1])
      have hw : IntKind.u64.wrap ((x : Int) + y) = (x : Int) + y := by rw [IntKind.wrap_u64]; omega
      go_enter Try.func22, Try.ntmps22
      go_wp2
      go_ret
      exact ⟨by rw [Hr.out]; rfl, rfl⟩
    · have h1' : (p : Int) ≤ (x : Int) + y := by omega
      have Hr : Hid (addm p x y = x + y - p) := hide (by unfold addm; rw [if_neg h1])
      have hw : IntKind.u64.wrap ((x : Int) + y) = (x : Int) + y := by rw [IntKind.wrap_u64]; omega
      go_enter Try.func22, Try.ntmps22
      go_wp2
      go_ret
      exact ⟨by rw [Hr.out]; go_num, rfl⟩
  · obtain ⟨s, hs⟩ : ∃ s : Nat, s = x + y - 18446744073709551616 := ⟨_, rfl⟩
    have hw : IntKind.u64.wrap ((x : Int) + y) = (s : Int) := by rw [IntKind.wrap_u64]; omega
    have h0 : (s : Int) < x := by omega
    have hw2 : IntKind.u64.wrap ((s : Int) - p) = ((addm p x y : Nat) : Int) := by rw [IntKind.wrap_u64]; unfold addm; rw [if_neg (by omega)]; omega
    clear hs hc
    go_enter Try.func22, Try.ntmps22
    go_wp2
    go_ret
    exact ⟨rfl, rfl⟩

/-- The three blocks that a caller of newWordCurve makes. -/
def three (w : World) (mb : Nat) : World :=
  ((w.alloc (.cells #[.bool false, .slice none 0 0] 64 (0, 0))).alloc (.cells #[.bool false, .slice none 0 0] 64 (0, 0))).alloc
    (.cells #[.pointer (some ⟨mb, 0, none⟩), .pointer (some ⟨w.heap.size, 0, none⟩), .pointer (some ⟨w.heap.size + 1, 0, none⟩), .pointer none, .pointer none, .pointer none, .int .i64 0, .pointer none] 67 (0, 0))

theorem curve_of (mb n cap : Nat) (a : Option Addr) (z : Nat → Nat) (w : World) (hn0 : 1 ≤ n) (hn : n ≤ 9) (hz : ∀ i, i < n → z i < W) (hodd : z 0 % 2 = 1) (hi : IntIs w mb a n cap z) :
    Calls Try.prog 35 #[.pointer (some ⟨w.heap.size + 1 + 1, 0, none⟩)] (three w mb) (CurveP n z w) := by
  have s1 : (w.alloc (.cells #[.bool false, .slice none 0 0] 64 (0, 0))).heap.size = w.heap.size + 1 := by simp
  have s2 : ((w.alloc (.cells #[.bool false, .slice none 0 0] 64 (0, 0))).alloc (.cells #[.bool false, .slice none 0 0] 64 (0, 0))).heap.size = w.heap.size + 1 + 1 := by simp
  have hb : Below w.heap.size w (three w mb) := (((Below.refl _ w).alloc (Nat.le_refl _) _).alloc (by omega) _).alloc (by omega) _
  have h2 : (three w mb).heap[w.heap.size + 1 + 1]? = some (.cells #[.pointer (some ⟨mb, 0, none⟩), .pointer (some ⟨w.heap.size, 0, none⟩), .pointer (some ⟨w.heap.size + 1, 0, none⟩), .pointer none, .pointer none, .pointer none, .int .i64 0, .pointer none] 67 (0, 0)) := by
    have h := heap_alloc_new ((w.alloc (.cells #[.bool false, .slice none 0 0] 64 (0, 0))).alloc (.cells #[.bool false, .slice none 0 0] 64 (0, 0))) (.cells #[.pointer (some ⟨mb, 0, none⟩), .pointer (some ⟨w.heap.size, 0, none⟩), .pointer (some ⟨w.heap.size + 1, 0, none⟩), .pointer none, .pointer none, .pointer none, .int .i64 0, .pointer none] 67 (0, 0))
    rw [s2] at h
    exact h
  have h1 : (three w mb).heap[w.heap.size + 1]? = some (.cells #[.bool false, .slice none 0 0] 64 (0, 0)) := by
    have h := heap_alloc_new (w.alloc (.cells #[.bool false, .slice none 0 0] 64 (0, 0))) (.cells #[.bool false, .slice none 0 0] 64 (0, 0))
    rw [s1] at h
    exact (Below.heap_alloc _ _ _ (by omega)).trans h
  have h0 : (three w mb).heap[w.heap.size]? = some (.cells #[.bool false, .slice none 0 0] 64 (0, 0)) :=
    (Below.heap_alloc _ _ _ (by omega)).trans ((Below.heap_alloc _ _ _ (by omega)).trans (heap_alloc_new w _))
  have hlt := hi.lt
  refine (curve35 (w.heap.size + 1 + 1) mb w.heap.size (w.heap.size + 1) n cap a z (fun _ => 0) (three w mb) hn0 hn hz hodd (by rw [cell_of_row _ _ 0 _ _ _ h2]; rfl) (by rw [cell_of_row _ _ 1 _ _ _ h2]; rfl) (by rw [cell_of_row _ _ 2 _ _ _ h2]; rfl) (hi.below hb) ⟨h0, Or.inl rfl⟩ ⟨h1, Or.inl rfl⟩ (by omega) (by omega)).mono ?_
  rintro e w' ⟨wb, q, he, hwb, hr, hq, hq9, hinv, hbw⟩
  exact ⟨wb, q, he, Nat.le_trans hb.size hwb, hr, hq, hq9, hinv, hb.trans (hbw.mono hb.size)⟩

theorem pad_val (x : Nat) : val (pad (fun _ => x) (setN x)) 1 = x := by
  simp only [val, pad, setN]
  by_cases h : x = 0 <;> simp [h]

set_option maxRecDepth 1000000 in
set_option maxHeartbeats 8000000 in
/-- ZZWordAdd. -/
theorem wadd21 (p x y : Nat) (hp : p < 18446744073709551616) (hodd : p % 2 = 1) (hx : x < p) (hy : y < p) (w : World) :
    Calls Try.prog 21 #[.int .u64 p, .int .u64 x, .int .u64 y] w fun e w' => e = .returned (.int .u64 (addm p x y : Nat)) ∧ Below w.heap.size w w' := by
  have Hodd := hide hodd
  clear hodd
  go_enter Try.func21, Try.ntmps21
  go_wp2_with fail
  refine (set34 w.heap.size p hp _ (heap_alloc_new w _)).mono ?_
  rintro e w1 ⟨rfl, ⟨a, hi⟩, hb⟩
  have HB1 : Hid (Below w.heap.size w w1) := hide (((Below.refl _ w).alloc (Nat.le_refl _) _).trans hb)
  have e1 : setN p = 1 := by unfold setN; rw [if_neg (by omega)]
  rw [e1] at hi
  have HI1 := hide hi
  clear hi hb e1
  go_wp2_with fail
  refine (curve_of w.heap.size 1 1 a (fun _ => p) w1 (by omega) (by omega) (fun _ _ => hp) Hodd.out HI1.out).mono ?_
  rintro e w2 ⟨wb, q, rfl, hwb, hr, hq, hq9, -, hb2⟩
  have HW2 := hide hr
  have Hq := hide hq
  have hq0 : q 0 = p := by rw [hq9 0 (by omega)]; rfl
  have Hq0 := hide hq0
  have HB2 : Hid (Below w.heap.size w w2) := hide (HB1.out.trans (hb2.mono HB1.out.size))
  have hwbw : w.heap.size ≤ wb := Nat.le_trans HB1.out.size hwb
  clear hr hq hq0 hq9 hb2 hwb HB1 HI1
  go_wp2_with fail
  have hxW : x < 18446744073709551616 := by omega
  have hyW : y < 18446744073709551616 := by omega
  have hsx : setN x ≤ 9 := by unfold setN; split <;> omega
  have hsy : setN y ≤ 9 := by unfold setN; split <;> omega
  refine (set34 w2.heap.size x hxW _ (heap_alloc_new w2 _)).mono ?_
  rintro e w3 ⟨rfl, ⟨a3, hi3⟩, hb⟩
  have hb3 : Below w2.heap.size w2 w3 := ((Below.refl _ w2).alloc (Nat.le_refl _) _).trans hb
  have HB3 : Hid (Below w.heap.size w w3) := hide (HB2.out.trans (hb3.mono HB2.out.size))
  have HW3 : Hid (w3.rowIs wb 85 29 (wc q 1)) := hide (rowIs_below HW2.out hb3)
  have HI3 := hide hi3
  clear hb hb3 hi3 HB2 HW2
  go_wp2_with fail
  refine (words36' w2.heap.size (setN x) (setN x) a3 (fun _ => x) w3 hsx HI3.out).mono ?_
  rintro e w4 ⟨rfl, hb4⟩
  have HB4 : Hid (Below w.heap.size w w4) := hide (HB3.out.trans (hb4.mono HB3.out.size))
  have HW4 : Hid (w4.rowIs wb 85 29 (wc q 1)) := hide (rowIs_below HW3.out hb4)
  clear hb4 HB3 HW3 HI3
  obtain ⟨fx, hfx⟩ : ∃ fx, fx = pad (fun _ => x) (setN x) := ⟨_, rfl⟩
  rw [← hfx]
  have Hfx : Hid (val fx 1 = x) := hide (by rw [hfx]; exact pad_val x)
  have HfxW : Hid (∀ k, fx k < W) := hide (by rw [hfx]; exact pad_lt fun _ _ => hxW)
  clear hfx
  go_upto_region 4 with (refine store_new rfl 70 (.tmp 9) (.tmp 28) rfl fx _ rfl rfl 70 inf70 rfl ?_)
  obtain ⟨xb, hxb⟩ : ∃ xb, xb = w4.heap.size := ⟨_, rfl⟩
  obtain ⟨w5, hw5⟩ : ∃ w5, w5 = w4.alloc (.cells (nine fx) 70 (0, 0)) := ⟨_, rfl⟩
  rw [← hw5, ← hxb]
  have hA5 : Below w4.heap.size w4 w5 := by rw [hw5]; exact (Below.refl _ _).alloc (Nat.le_refl _) _
  have HB5 : Hid (Below w.heap.size w w5) := hide (HB4.out.trans (hA5.mono HB4.out.size))
  have HW5 : Hid (w5.rowIs wb 85 29 (wc q 1)) := hide (rowIs_below HW4.out hA5)
  have HX5 : Hid (w5.rowIs xb 70 9 (fun i => .int .u64 (fx i : Nat))) := hide (by rw [hw5, hxb]; exact nine_row _ _)
  clear hA5 hw5 hxb HB4 HW4
  go_step
  go_wp2_with fail
  refine (set34 w5.heap.size y hyW _ (heap_alloc_new w5 _)).mono ?_
  rintro e w6 ⟨rfl, ⟨a6, hi6⟩, hb⟩
  have hb6 : Below w5.heap.size w5 w6 := ((Below.refl _ w5).alloc (Nat.le_refl _) _).trans hb
  have HB6 : Hid (Below w.heap.size w w6) := hide (HB5.out.trans (hb6.mono HB5.out.size))
  have HW6 : Hid (w6.rowIs wb 85 29 (wc q 1)) := hide (rowIs_below HW5.out hb6)
  have HX6 : Hid (w6.rowIs xb 70 9 (fun i => .int .u64 (fx i : Nat))) := hide (rowIs_below HX5.out hb6)
  have HI6 := hide hi6
  clear hb hb6 hi6 HB5 HW5 HX5
  go_wp2_with fail
  refine (words36' w5.heap.size (setN y) (setN y) a6 (fun _ => y) w6 hsy HI6.out).mono ?_
  rintro e w7 ⟨rfl, hb7⟩
  have HB7 : Hid (Below w.heap.size w w7) := hide (HB6.out.trans (hb7.mono HB6.out.size))
  have HW7 : Hid (w7.rowIs wb 85 29 (wc q 1)) := hide (rowIs_below HW6.out hb7)
  have HX7 : Hid (w7.rowIs xb 70 9 (fun i => .int .u64 (fx i : Nat))) := hide (rowIs_below HX6.out hb7)
  clear hb7 HB6 HW6 HX6 HI6
  obtain ⟨fy, hfy⟩ : ∃ fy, fy = pad (fun _ => y) (setN y) := ⟨_, rfl⟩
  rw [← hfy]
  have Hfy : Hid (val fy 1 = y) := hide (by rw [hfy]; exact pad_val y)
  have HfyW : Hid (∀ k, fy k < W) := hide (by rw [hfy]; exact pad_lt fun _ _ => hyW)
  clear hfy
  go_upto_region 5 with (refine store_new rfl 70 (.tmp 11) (.tmp 35) rfl fy _ rfl rfl 70 inf70 rfl ?_)
  obtain ⟨yb, hyb⟩ : ∃ yb, yb = w7.heap.size := ⟨_, rfl⟩
  obtain ⟨w8, hw8⟩ : ∃ w8, w8 = w7.alloc (.cells (nine fy) 70 (0, 0)) := ⟨_, rfl⟩
  rw [← hw8, ← hyb]
  have hA8 : Below w7.heap.size w7 w8 := by rw [hw8]; exact (Below.refl _ _).alloc (Nat.le_refl _) _
  have HB8 : Hid (Below w.heap.size w w8) := hide (HB7.out.trans (hA8.mono HB7.out.size))
  have HW8 : Hid (w8.rowIs wb 85 29 (wc q 1)) := hide (rowIs_below HW7.out hA8)
  have HX8 : Hid (w8.rowIs xb 70 9 (fun i => .int .u64 (fx i : Nat))) := hide (rowIs_below HX7.out hA8)
  have HY8 : Hid (w8.rowIs yb 70 9 (fun i => .int .u64 (fy i : Nat))) := hide (by rw [hw8, hyb]; exact nine_row _ _)
  clear hA8 hw8 hyb HB7 HW7 HX7
  go_upto_region 6 with (fail)
  obtain ⟨zb, hzb⟩ : ∃ zb, zb = w8.heap.size := ⟨_, rfl⟩
  obtain ⟨w9, hw9⟩ : ∃ w9, w9 = w8.alloc (.cells #[.int .u64 0, .int .u64 0, .int .u64 0, .int .u64 0, .int .u64 0, .int .u64 0, .int .u64 0, .int .u64 0, .int .u64 0] 70 (0, 0)) := ⟨_, rfl⟩
  rw [← hw9, ← hzb]
  have hA9 : Below w8.heap.size w8 w9 := by rw [hw9]; exact (Below.refl _ _).alloc (Nat.le_refl _) _
  have HB9 : Hid (Below w.heap.size w w9) := hide (HB8.out.trans (hA9.mono HB8.out.size))
  have HW9 : Hid (w9.rowIs wb 85 29 (wc q 1)) := hide (rowIs_below HW8.out hA9)
  have HX9 : Hid (w9.rowIs xb 70 9 (fun i => .int .u64 (fx i : Nat))) := hide (rowIs_below HX8.out hA9)
  have HY9 : Hid (w9.rowIs yb 70 9 (fun i => .int .u64 (fy i : Nat))) := hide (rowIs_below HY8.out hA9)
  have HZ9 : Hid (w9.rowIs zb 70 9 (fun _ => .int .u64 0)) := hide (by rw [hw9, hzb]; exact row9_start _)
  have hzbw : w.heap.size ≤ zb := by rw [hzb]; exact HB8.out.size
  clear hA9 hw9 hzb HB8 HW8 HX8 HY8
  have Hvq : Hid (val q 1 = p) := hide (by simp [val, Hq0.out])
  have Hlt : Hid (val fx 1 + val fy 1 < 2 * val q 1) := hide (by rw [Hfx.out, Hfy.out, Hvq.out]; omega)
  go_step
  go_wp2_with fail
  obtain ⟨cz, hcz, hczs, -⟩ := HZ9.out
  refine (addC wb xb 0 yb 0 zb 0 1 q fx fy w9 cz 70 (by omega) (by omega) Hq.out HfxW.out HfyW.out HW9.out (row_cells HX9.out (by omega)) (row_cells HY9.out (by omega)) hcz (by omega) Hlt.out).mono ?_
  clear hcz hczs
  rintro e v1 ⟨rfl, r, hr, hwr⟩
  have HB : Hid (Below w.heap.size w v1) := hide (HB9.out.trans (hwr.below hzbw HB9.out.size))
  have hrow := hwr.rowIs HZ9.out
  have z0 : v1.cell? ⟨zb, 0, none⟩ = some (.int .u64 (r 0 : Nat)) := hrow.cell (i := 0) (by omega)
  have z1 : v1.cell? ⟨zb, 1, none⟩ = some (.int .u64 0) := by
    have h : v1.cell? ⟨zb, 1, none⟩ = some (.int .u64 (r 1 : Nat)) := hrow.cell (i := 1) (by omega)
    rw [h, hr.2.1 1 (by omega)]; rfl
  have hr0 : r 0 < 18446744073709551616 := hr.1 0
  have hor : bits .or .u64 ((r 0 : Nat) : Int) 0 = ((r 0 : Nat) : Int) := by
    have h := u64_or_nat (r 0) 0 hr0 (by omega)
    rw [Nat.or_zero] at h
    exact h
  have Hans : Hid (r 0 = addm p x y) := hide (by
    have h := hr.2.2
    have e : val r 1 = r 0 := by simp [val]
    rw [Hfx.out, Hfy.out, Hvq.out, e] at h
    exact addm_of h.1 h.2)
  clear hr hwr hrow hr0
  go_wp2
  go_ret
  exact ⟨by rw [← Hans.out]; rfl, HB.out⟩
end Go.Proofs.Qxb6002380a
