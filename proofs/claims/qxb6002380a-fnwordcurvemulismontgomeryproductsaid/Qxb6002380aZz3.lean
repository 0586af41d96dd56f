import Derived.Test.Qxb6002380aZz2
import Derived.Test.Qxb6002380aWadd
namespace Go.Proofs.Qxb6002380a
open Go.RowKit

set_option maxRecDepth 100000 in
set_option maxHeartbeats 1000000 in
/-- zzBigOf. -/
theorem big38 (b o N n cap : Nat) (z : Nat → Nat) (w : World) (hN : N ≤ 4096) (hn0 : 0 < n) (hn : n ≤ N) (hc : Sl w b o N z) (htop : z (n - 1) ≠ 0) (hz : ∀ i, n ≤ i → i < N → z i = 0) :
    Calls Try.prog 38 #[.slice (some ⟨b, o, none⟩) N cap] w fun e w' => ∃ ib d, e = .returned (.pointer (some ⟨ib, 0, none⟩)) ∧ IntIs w' ib (some ⟨d, 0, none⟩) n N z ∧ Below w.heap.size w w' := by
  have hmk := run_make_row' 57 58 (.int .u64 0) 8 Try.underlying57 info58 rfl .i64 .i64 N (by omega) (by omega)
  have hlt := hc.lt (show 0 < N by omega)
  have Hc := hide hc
  have Ht := hide htop
  have Hz := hide hz
  clear hc htop hz
  go_enter Try.func38, Try.ntmps38
  go_wp2
  go_loopw [10] (fun i wr => ∃ k : Nat, k ≤ N ∧ i = .int .i64 k ∧ wr.rowIs w.heap.size 58 N (fun i => .int .u64 ((if i < k then z i else 0 : Nat) : Int)) ∧ Below w.heap.size w wr) (fun i _ => N - (intOf i).toNat)
  case atStart => exact ⟨0, Nat.zero_le _, rfl, (World.rowIs_made w _ N 58).congr (fun i hi => by simp), (Below.refl _ _).alloc (Nat.le_refl _) _⟩
  case round =>
    obtain ⟨k, hk, rfl, hrow, hbel⟩ := hrel
    by_cases hkn : k < N
    · have hck : wr.cell? ⟨b, o + k, none⟩ = some (.int .u64 (z k : Nat)) := (hbel.cell hlt).trans (Hc.out k hkn)
      have hcs := hrow.cell hkn
      have hfz := hrow.frozen k
      go_wp2
      go_roundw
      case rel =>
        refine ⟨k + 1, by omega, by go_num, (hrow.set k _).congr (fun i hi => ?_), hbel.setCell (Nat.le_refl _) _⟩
        by_cases e : i = k
        · subst e; simp
        · have e1 : (i < k + 1) = (i < k) := by rw [eq_iff_iff]; omega
          simp only [e, if_false, e1]
      case measure => simp [intOf]; omega
    · have e : k = N := by omega
      have Hrow : Hid (wr.rowIs w.heap.size 58 N (fun i => .int .u64 (z i : Nat))) := hide (hrow.congr fun i hi => by rw [if_pos (by omega)])
      have Hbel := hide hbel
      have i1 : ¬ ((k : Int) < (N : Int)) := by omega
      clear hrow hbel e hmk
      go_wp2_with fail
      have hs : w.heap.size < wr.heap.size := Hrow.out.lt
      refine (set54 wr.heap.size w.heap.size N n z _ (heap_alloc_new wr _) (by omega) hN hn0 hn ((Sl.of_row Hrow.out).below ((Below.refl _ wr).alloc (Nat.le_refl _) _)) Ht.out Hz.out).mono ?_
      rintro e w2 ⟨rfl, hi, hb2⟩
      have Hi := hide hi
      have Hb2 : Hid (Below w.heap.size w w2) := hide ((Hbel.out.alloc (by omega) _).trans (hb2.mono (by omega)))
      clear hi hb2
      go_wp2
      go_ret
      exact ⟨_, _, rfl, Hi.out, Hb2.out⟩

set_option maxRecDepth 100000 in
set_option maxHeartbeats 1000000 in
/-- ZZNewWordCurve. -/
theorem new24 (b o N n cap : Nat) (z : Nat → Nat) (w : World) (hN : N ≤ 4096) (hn0 : 0 < n) (hn : n ≤ N) (hn9 : n ≤ 9) (hc : Sl w b o N z) (htop : z (n - 1) ≠ 0) (hz : ∀ i, n ≤ i → i < N → z i = 0) (hzW : ∀ i, z i < W) (hodd : z 0 % 2 = 1) :
    Calls Try.prog 24 #[.slice (some ⟨b, o, none⟩) N cap] w (CurveP n z w) := by
  have H38 := hide (big38 b o N n cap z w hN hn0 hn hc htop hz)
  have HzW := hide hzW
  have Hodd := hide hodd
  clear hc htop hz hzW hodd
  go_enter Try.func24, Try.ntmps24
  go_wp2_with fail
  refine H38.out.mono ?_
  rintro e w1 ⟨ib, d, rfl, hi, hb⟩
  have Hi := hide hi
  have Hb := hide hb
  clear hi hb
  go_wp2_with fail
  refine (curve_of ib n N (some ⟨d, 0, none⟩) z w1 hn0 hn9 (fun i _ => HzW.out i) Hodd.out Hi.out).mono ?_
  rintro e w2 ⟨wb, q, rfl, hwb, hr, hq, hq9, hinv, hb2⟩
  have HA := hide (And.intro hr (And.intro hq (And.intro hq9 hinv)))
  have hwbw : w.heap.size ≤ wb := Nat.le_trans Hb.out.size hwb
  have Hb2 : Hid (Below w.heap.size w w2) := hide (Hb.out.trans (hb2.mono Hb.out.size))
  clear hr hq hq9 hinv hb2
  go_wp2
  go_ret
  exact ⟨wb, q, rfl, hwbw, HA.out.1, HA.out.2.1, HA.out.2.2.1, HA.out.2.2.2, Hb2.out⟩

/-- copy of nine words over nine. -/
theorem copy_nine {w : World} {ops : Array Oper} {rest : List Oper} {oo : Oper} {a : Act} {Q : Exit → Act → World → Prop} (hgd : oo.guard = none) (d s : Operand)
    (ho : oo.op = .call { callee := .builtin .copy, args := #[d, s], argTypes := #[34, 34] }) (g sb so cap : Nat) (x : Nat → Nat) (hd : a.eval d = .slice (some ⟨g, 0, none⟩) 9 9) (hs : a.eval s = .slice (some ⟨sb, so, none⟩) 9 cap)
    (t : TypeId) (f : Nat → Value) (hg : w.rowIs g t 9 f) (hsrc : Sl w sb so 9 x)
    (h : wpList Try.prog ops Q rest (a.put oo.dst (goInt 9)) (w.setRow g (nine x))) : wpList Try.prog ops Q (oo :: rest) a w := by
  obtain ⟨cur, hcur, hcs, -⟩ := hg
  refine wpList_copy_own hgd d s 34 34 ho 35 und34 (by kernel_rfl) g 0 9 9 ⟨sb, so, none⟩ 9 cap hd hs cur t hcur (nine x).toList rfl (fun j v hv => ?_) (by rw [hcs]; exact Nat.le_refl 9) (fun v hv => ?_) ?_
  · have hj : j < 9 := by
      rcases Nat.lt_or_ge j 9 with h | h
      · exact h
      · rw [List.getElem?_eq_none (show (nine x).toList.length ≤ j from h)] at hv; cases hv
    rw [Array.getElem?_toList, nine_get x j hj] at hv
    cases hv
    have e : (⟨sb, so, none⟩ : Addr).add j = ⟨sb, so + j, none⟩ := by unfold Addr.add; split <;> simp_all
    rw [e]
    exact hsrc j hj
  · exact (Array.all_eq_true_iff_forall_mem.1 (all_one (nine_size x) (nine_get x))) v (by simpa using hv)
  · have e : cur.toList.drop (0 + (nine x).toList.length) = [] := List.drop_of_length_le (by rw [Array.length_toList, hcs]; exact Nat.le_refl 9)
    rw [e]
    simp only [List.take_zero, List.nil_append, List.append_nil, Array.toArray_toList]
    exact h

theorem row_set {w : World} {g t : Nat} {f : Nat → Value} (x : Nat → Nat) (h : w.rowIs g t 9 f) : (w.setRow g (nine x)).rowIs g t 9 (fun i => .int .u64 (x i : Nat)) := by
  obtain ⟨cur, hcur, hcs, -⟩ := h
  exact ⟨nine x, setRow_heap w g cur _ t _ hcur, nine_size x, nine_get x⟩

theorem row_set_other {w : World} {g b t n : Nat} {f : Nat → Value} (c : Array Value) (h : w.rowIs b t n f) (hne : b ≠ g) : (w.setRow g c).rowIs b t n f := h.of_block (setRow_other w g b c hne)

theorem Sl.set_other {w : World} {g b o n : Nat} {z : Nat → Nat} (c : Array Value) (h : Sl w b o n z) (hne : b ≠ g) : Sl (w.setRow g c) b o n z := fun i hi => (cell_setRow_other w g c ⟨b, o + i, none⟩ hne).trans (h i hi)

theorem three9 {w w' : World} (h : w' = ((w.alloc (.cells #[.int .u64 0, .int .u64 0, .int .u64 0, .int .u64 0, .int .u64 0, .int .u64 0, .int .u64 0, .int .u64 0, .int .u64 0] 70 (0, 0))).alloc (.cells #[.int .u64 0, .int .u64 0, .int .u64 0, .int .u64 0, .int .u64 0, .int .u64 0, .int .u64 0, .int .u64 0, .int .u64 0] 70 (0, 0))).alloc (.cells #[.int .u64 0, .int .u64 0, .int .u64 0, .int .u64 0, .int .u64 0, .int .u64 0, .int .u64 0, .int .u64 0, .int .u64 0] 70 (0, 0))) :
    w'.rowIs w.heap.size 70 9 (fun _ => .int .u64 0) ∧ w'.rowIs (w.heap.size + 1) 70 9 (fun _ => .int .u64 0) ∧ w'.rowIs (w.heap.size + 1 + 1) 70 9 (fun _ => .int .u64 0) ∧ Below w.heap.size w w' := by
  obtain ⟨h1, h2, h3⟩ := two9 (w := w) rfl
  have h4 := row9_start ((w.alloc (.cells #[.int .u64 0, .int .u64 0, .int .u64 0, .int .u64 0, .int .u64 0, .int .u64 0, .int .u64 0, .int .u64 0, .int .u64 0] 70 (0, 0))).alloc (.cells #[.int .u64 0, .int .u64 0, .int .u64 0, .int .u64 0, .int .u64 0, .int .u64 0, .int .u64 0, .int .u64 0, .int .u64 0] 70 (0, 0)))
  have e : ((w.alloc (.cells #[.int .u64 0, .int .u64 0, .int .u64 0, .int .u64 0, .int .u64 0, .int .u64 0, .int .u64 0, .int .u64 0, .int .u64 0] 70 (0, 0))).alloc (.cells #[.int .u64 0, .int .u64 0, .int .u64 0, .int .u64 0, .int .u64 0, .int .u64 0, .int .u64 0, .int .u64 0, .int .u64 0] 70 (0, 0))).heap.size = w.heap.size + 1 + 1 := by simp
  rw [e] at h4
  subst h
  exact ⟨h1.of_block (Below.heap_alloc _ _ _ (by omega)), h2.of_block (Below.heap_alloc _ _ _ (by omega)), h4, h3.alloc (by omega) _⟩

set_option maxRecDepth 100000 in
set_option maxHeartbeats 2000000 in
/-- ZZWordCurveMul. -/
theorem zmul27 (wb xb xo yb yo n cx cy : Nat) (q x y : Nat → Nat) (w : World) (hn0 : 1 ≤ n) (hn : n ≤ 9) (hq : ∀ k, q k < W) (hx : ∀ k, x k < W) (hy : ∀ k, y k < W) (hrow : w.rowIs wb 85 29 (wc q n)) (hxc : Sl w xb xo 9 x) (hyc : Sl w yb yo 9 y)
    (hinv : (q 0 * q 10 + 1) % W = 0) (hlt : val x n * val y n < val q n * W ^ n) :
    Calls Try.prog 27 #[.pointer (some ⟨wb, 0, none⟩), .slice (some ⟨xb, xo, none⟩) 9 cx, .slice (some ⟨yb, yo, none⟩) 9 cy] w fun e w' =>
      ∃ g r, e = .returned (.slice (some ⟨g, 0, none⟩) 9 9) ∧ w.heap.size ≤ g ∧ w'.rowIs g 35 9 (fun i => .int .u64 (r i : Nat)) ∧ MulOK n (val x n) (val y n) (val q n) r ∧ Below w.heap.size w w' := by
  have hmk : ∀ w, (Instr.makeSlice 34 (.int .i64 9) (.int .i64 9)).run Try.prog w = .ok (.slice (some ⟨w.heap.size, 0, none⟩) 9 9) (w.alloc (.cells (madeCells #[.int .u64 0] 9) 35 (0, 0))) := fun w =>
    run_make_row' 34 35 (.int .u64 0) 8 Try.underlying34 info35' rfl .i64 .i64 9 (by omega) (by omega) w
  have hxb := hxc.lt (by omega)
  have hyb := hyc.lt (by omega)
  have hwb := hrow.lt
  have Hq := hide hq
  have Hx := hide hx
  have Hy := hide hy
  have Hrow := hide hrow
  have Hxc := hide hxc
  have Hyc := hide hyc
  have Hinv := hide hinv
  have Hlt := hide hlt
  clear hq hx hy hrow hxc hyc hinv hlt
  obtain ⟨S, hS⟩ : ∃ S, S = w.heap.size := ⟨_, rfl⟩
  rw [← hS] at hxb hyb hwb
  have HS := hide hS
  clear hS
  go_enter Try.func27, Try.ntmps27
  go_upto_region 2 with (fail)
  rw [← HS.out]
  obtain ⟨w1, hw1⟩ : ∃ w1, w1 = ((w.alloc (.cells #[.int .u64 0, .int .u64 0, .int .u64 0, .int .u64 0, .int .u64 0, .int .u64 0, .int .u64 0, .int .u64 0, .int .u64 0] 70 (0, 0))).alloc (.cells #[.int .u64 0, .int .u64 0, .int .u64 0, .int .u64 0, .int .u64 0, .int .u64 0, .int .u64 0, .int .u64 0, .int .u64 0] 70 (0, 0))).alloc (.cells #[.int .u64 0, .int .u64 0, .int .u64 0, .int .u64 0, .int .u64 0, .int .u64 0, .int .u64 0, .int .u64 0, .int .u64 0] 70 (0, 0)) := ⟨_, rfl⟩
  rw [← hw1]
  obtain ⟨r1, r2, r3, r4⟩ := three9 hw1
  have HX1 := hide (Hxc.out.below r4)
  have HY1 := hide (Hyc.out.below r4)
  have HW1 := hide (rowIs_below Hrow.out r4)
  rw [← HS.out] at r1 r2 r3 r4
  have HR1 := hide r1
  have HR2 := hide r2
  have HR3 := hide r3
  have HB1 := hide r4
  clear r1 r2 r3 r4 hw1
  go_step
  go_upto_region 3 with (refine copy_nine rfl (.tmp 11) (.tmp 12) rfl S xb xo cx x rfl rfl 70 _ HR1.out HX1.out ?_)
  obtain ⟨w2, hw2⟩ : ∃ w2, w2 = w1.setRow S (nine x) := ⟨_, rfl⟩
  rw [← hw2]
  have HX2 : Hid (w2.rowIs S 70 9 (fun i => .int .u64 (x i : Nat))) := hide (by rw [hw2]; exact row_set x HR1.out)
  have HY2 : Hid (Sl w2 yb yo 9 y) := hide (by rw [hw2]; exact HY1.out.set_other _ (by omega))
  have HW2 : Hid (w2.rowIs wb 85 29 (wc q n)) := hide (by rw [hw2]; exact row_set_other _ HW1.out (by omega))
  have HR22 : Hid (w2.rowIs (S + 1) 70 9 (fun _ => .int .u64 0)) := hide (by rw [hw2]; exact row_set_other _ HR2.out (by omega))
  have HR23 : Hid (w2.rowIs (S + 1 + 1) 70 9 (fun _ => .int .u64 0)) := hide (by rw [hw2]; exact row_set_other _ HR3.out (by omega))
  have HB2 : Hid (Below S w w2) := hide (by rw [hw2]; exact below_setRow HB1.out (Nat.le_refl S) _)
  clear hw2 HX1 HY1 HW1 HR1 HR2 HR3 HB1
  go_step
  go_upto_region 4 with (refine copy_nine rfl (.tmp 14) (.tmp 15) rfl (S + 1) yb yo cy y rfl rfl 70 _ HR22.out HY2.out ?_)
  obtain ⟨w3, hw3⟩ : ∃ w3, w3 = w2.setRow (S + 1) (nine y) := ⟨_, rfl⟩
  rw [← hw3]
  have HX3 : Hid (w3.rowIs S 70 9 (fun i => .int .u64 (x i : Nat))) := hide (by rw [hw3]; exact row_set_other _ HX2.out (by omega))
  have HY3 : Hid (w3.rowIs (S + 1) 70 9 (fun i => .int .u64 (y i : Nat))) := hide (by rw [hw3]; exact row_set y HR22.out)
  have HW3 : Hid (w3.rowIs wb 85 29 (wc q n)) := hide (by rw [hw3]; exact row_set_other _ HW2.out (by omega))
  have HZ3 : Hid (w3.rowIs (S + 1 + 1) 70 9 (fun _ => .int .u64 0)) := hide (by rw [hw3]; exact row_set_other _ HR23.out (by omega))
  have HB3 : Hid (Below S w w3) := hide (by rw [hw3]; exact below_setRow HB2.out (by omega) _)
  clear hw3 HX2 HY2 HW2 HR22 HR23 HB2
  go_step
  go_wp2_with fail
  obtain ⟨cz, hcz, hczs, -⟩ := HZ3.out
  refine (mulC wb S 0 (S + 1) 0 (S + 1 + 1) 0 n q x y w3 cz 70 hn0 hn Hq.out Hx.out Hy.out HW3.out (row_cells HX3.out hn) (row_cells HY3.out hn) hcz (by omega) Hinv.out Hlt.out).mono ?_
  clear hcz hczs
  rintro e w4 ⟨rfl, r, hr, hwr⟩
  have Hr := hide hr
  have HZ4 : Hid (w4.rowIs (S + 1 + 1) 70 9 (fun i => .int .u64 (r i : Nat))) := hide ((hwr.rowIs HZ3.out).congr fun j hj => by rw [if_pos (by omega)]; rfl)
  have HB4 : Hid (Below S w w4) := hide (HB3.out.trans (hwr.below (by omega) (by have := HB3.out.size; have := HS.out; omega)))
  clear hr hwr HX3 HY3 HW3 HZ3 HB3
  go_upto_region 6 with (fail)
  obtain ⟨g, hg⟩ : ∃ g, g = w4.heap.size := ⟨_, rfl⟩
  obtain ⟨w5, hw5⟩ : ∃ w5, w5 = w4.alloc (.cells (madeCells #[.int .u64 0] 9) 35 (0, 0)) := ⟨_, rfl⟩
  rw [← hw5, ← hg]
  have HG5 : Hid (w5.rowIs g 35 9 (fun _ => .int .u64 0)) := hide (by rw [hw5, hg]; exact World.rowIs_made w4 _ 9 35)
  have HZ5 : Hid (Sl w5 (S + 1 + 1) 0 9 r) := hide (by rw [hw5]; exact (Sl.of_row HZ4.out).below ((Below.refl _ _).alloc (Nat.le_refl _) _))
  have hSg : S ≤ g := by rw [hg]; have := HB4.out.size; have := HS.out; omega
  have HB5 : Hid (Below S w w5) := hide (by rw [hw5]; exact HB4.out.alloc (by have := HB4.out.size; have := HS.out; omega) _)
  clear hw5 hg HZ4 HB4 hmk
  go_step
  go_wp2_with (refine copy_nine rfl (.tmp 20) (.tmp 21) rfl g (S + 1 + 1) 0 9 r rfl rfl 35 _ HG5.out HZ5.out ?_)
  go_ret
  exact ⟨g, r, rfl, by rw [← HS.out]; exact hSg, row_set r HG5.out, Hr.out, by rw [← HS.out]; exact below_setRow HB5.out hSg _⟩
end Go.Proofs.Qxb6002380a
