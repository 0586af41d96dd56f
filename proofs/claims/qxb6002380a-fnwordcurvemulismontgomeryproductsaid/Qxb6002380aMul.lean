import Derived.Test.Qxb6002380aMulB
import Derived.Test.Qxb6002380aMulC
namespace Go.Proofs.Qxb6002380a
open Go.RowKit

theorem below_start {w : World} {bt nq : Nat} {o : Obj} (h : bt = w.heap.size) : Below bt w ((w.drewN nq).alloc o) :=
  (below_drewN (Below.refl _ w) nq).alloc (by rw [h]; exact Nat.le_refl _) o

theorem row_start {w : World} (nq : Nat) : ((w.drewN nq).alloc (.cells #[.int .u64 0, .int .u64 0, .int .u64 0, .int .u64 0, .int .u64 0, .int .u64 0, .int .u64 0, .int .u64 0, .int .u64 0, .int .u64 0] 89 (0, 0))).rowIs w.heap.size 89 10 (fun _ => .int .u64 ((0 : Nat) : Int)) := by
  refine ⟨_, heap_alloc_new (w.drewN nq) _, rfl, fun i hi => ?_⟩
  match i, hi with
  | 0, _ | 1, _ | 2, _ | 3, _ | 4, _ | 5, _ | 6, _ | 7, _ | 8, _ | 9, _ => rfl

theorem row9_start (w : World) : (w.alloc (.cells #[.int .u64 0, .int .u64 0, .int .u64 0, .int .u64 0, .int .u64 0, .int .u64 0, .int .u64 0, .int .u64 0, .int .u64 0] 70 (0, 0))).rowIs w.heap.size 70 9 (fun _ => .int .u64 0) := by
  refine ⟨_, heap_alloc_new w _, rfl, fun i hi => ?_⟩
  match i, hi with
  | 0, _ | 1, _ | 2, _ | 3, _ | 4, _ | 5, _ | 6, _ | 7, _ | 8, _ => rfl

theorem St.alloc {w0 wr : World} {bt : Nat} {t : Nat → Nat} (h : St w0 wr bt t) (o : Obj) : St w0 (wr.alloc o) bt t :=
  ⟨h.1.of_block (Below.heap_alloc wr o bt h.1.lt), h.2.1.alloc (Nat.le_of_lt h.1.lt) o, h.2.2⟩

set_option maxRecDepth 1000000 in
set_option maxHeartbeats 8000000 in
/-- wordCurve.mul: Montgomery's product of x and y over p, laid at z. -/
theorem mulC (wb xb xo yb yo zb zo n : Nat) (q x y : Nat → Nat) (w : World) (cz : Array Value) (tz : TypeId) (hn0 : 1 ≤ n) (hn : n ≤ 9) (hq : ∀ k, q k < W) (hx : ∀ k, x k < W) (hy : ∀ k, y k < W)
    (hrow : w.rowIs wb 85 29 (wc q n)) (hxc : ∀ i, i < n → w.cell? ⟨xb, xo + i, none⟩ = some (.int .u64 (x i))) (hyc : ∀ i, i < n → w.cell? ⟨yb, yo + i, none⟩ = some (.int .u64 (y i)))
    (hz : w.heap[zb]? = some (.cells cz tz (0, 0))) (hzo : zo + 9 ≤ cz.size) (hinv : (q 0 * q 10 + 1) % W = 0) (hlt : val x n * val y n < val q n * W ^ n) :
    Calls Try.prog 39 #[.pointer (some ⟨wb, 0, none⟩), .pointer (some ⟨zb, zo, none⟩), .pointer (some ⟨xb, xo, none⟩), .pointer (some ⟨yb, yo, none⟩)] w fun e w' =>
      e = .returned (.tuple #[]) ∧ ∃ r, MulOK n (val x n) (val y n) (val q n) r ∧ Wrote zb zo (fun k => .int .u64 (r k : Nat)) w w' := by
  have c9 : w.cell? ⟨wb, 9, none⟩ = some (.int .i64 n) := hrow.cell (i := 9) (by omega)
  have hwb := hrow.lt
  have hxb : xb < w.heap.size := World.block_lt_of_cell? w _ (hxc 0 hn0)
  have hyb : yb < w.heap.size := World.block_lt_of_cell? w _ (hyc 0 hn0)
  have hzb : zb < w.heap.size := (Array.getElem?_eq_some_iff.1 hz).1
  have hn9 : (n : Int) ≤ 9 := by omega
  have hn10 : (n : Int) + 1 ≤ 10 := by omega
  have hn1 : (0 : Int) ≤ (n : Int) + 1 := by omega
  have Hrow := hide hrow
  have Hq := hide hq
  have Hx := hide hx
  have Hy := hide hy
  have Hxc := hide hxc
  have Hyc := hide hyc
  have Hz := hide hz
  have Hinv := hide hinv
  have Hlt := hide hlt
  clear hrow hq hx hy hxc hyc hz hinv hlt
  obtain ⟨bt, hbt⟩ : ∃ bt, bt = w.heap.size := ⟨_, rfl⟩
  rw [← hbt] at hwb hxb hyb hzb
  have Hbt := hide hbt
  clear hbt
  go_enter Try.func39, Try.ntmps39
  go_wp2
  go_quiet (fail)
  go_wp2
  rw [← Hbt.out]
  go_loopw [62] (fun s62 wr => ∃ (k : Nat) (t : Nat → Nat), k ≤ n ∧ s62 = .int .i64 (k : Int) ∧ LO (val x n) y (val q n) k (val t (n + 1)) ∧ St w wr bt t) (fun s62 _ => n - (intOf s62).toNat)
  case atStart =>
    refine ⟨0, fun _ => 0, by omega, by go_num, ?_, ?_, below_start Hbt.out, fun _ => W_pos⟩
    · have e : val (fun _ => 0) (n + 1) = 0 := val_zero fun _ _ => rfl
      rw [e]; exact LO.start
    · rw [Hbt.out]
      exact row_start _
  case round =>
    obtain ⟨k, t, hk, rfl, ho, hS⟩ := hrel
    have HO := hide ho
    have HS := hide hS
    clear ho hS
    by_cases hkn : k < n
    · have hki : (k : Int) < (n : Int) := by omega
      have cy : wr.cell? ⟨yb, yo + k, none⟩ = some (.int .u64 (y k)) := cell_below HS.out.2.1 hyb (Hyc.out k hkn)
      go_upto_region 5 with (fail)
      go_step
      iterate 12 (first | go_values | go_skip | go_guarded | go_step | go_upon | go_back)
      refine tail6 wb bt xb xo n (y k) q x t w _ _ hn0 hn hwb hxb Hq Hx (Hy.out k) Hrow Hinv HS Hxc _ _ _ _ _ _ _ _ _ _ _ _ _ _ _ _ _ _ _ _ _ _ _ _ _ _ _ _ _ _ _ _ _ _ _ _ _ _ _ _ _ _ _ _ _ _ _ _ _ _ _ _ _ _ _ _ _ _ _ _ _ _ _ _ _ _ _ _ _ _ _ _ _ _ _ _ _ _ _ _ _ _ _ _ _ _ _ _ _ _ _ _ _ _ _ _ _ _ _ _ _ _ _ _ _ _ _ _ _ _ _ _ _ _ _ _ _ _ _ _ _ _ _ _ _ _ _ _ _ _ _ _ _ _ _ _ _ _ _ _ _ _ _ _ _ _ _ _ _ _ _ _ _ _ _ _ _ _ _ _ _ _ _ _ _ _ _ _ _ _ _ _ _ _ _ _ _ _ _ _ _ _ _ _ _ _ _ _ _ _ _ _ _ _ _ _ _ _ _ _ _ _ _ _ _ _ _ _ _ _ _ _ _ _ _ _ _ _ _ _ _ _ _ _ _ _ _ _ _ _ _ _ _ _ _ _ _ ?_
      refine hide ?_
      intro t' m w' u15 u16 u17 u18 u19 u20 u21 u22 u23 u24 u25 u26 u27 u28 u66 u67 u68 u69 u70 u71 u72 u73 u74 u75 u76 u77 u78 u79 u80 u81 u82 u83 u84 u85 u86 u87 u88 u89 u90 u91 u92 u93 u94 u95 u96 u97 u98 u99 u100 u101 u102 u103 u104 u105 u106 u107 u108 u109 u110 u111 u112 u113 u114 u115 u116 u117 u118 u119 u120 u121 u122 u123 u124 u125 u126 u127 u128 u129 u130 u131 u132 u133 u134 u135 u136 u137 u138 u139 u140 u141 u142 u143 u144 u145 u146 u147 u148 u149 u150 u151 u152 u153 u154 u155 u156 u157 u158 u159 u160 u161 u162 u163 u164 u165 u166 u167 u168 u169 u170 u171 u172 u173 u174 u175 u176 u177 u178 u179 u180 u181 u182 u183 u184 u185 u186 u187 u188 u189 u190 u191 u192 u193 u194 u195 u196 u197 u198 hm he hS
      go_wp2
      go_roundw
      case rel => exact ⟨k + 1, t', by omega, by go_num, HO.out.step hm he, hS⟩
      case measure => simp [intOf]; omega
    · have hki : ¬ ((k : Int) < (n : Int)) := by omega
      have HOn : Hid (LO (val x n) y (val q n) n (val t (n + 1))) := hide (by have h := HO.out; rw [show k = n by omega] at h; exact h)
      go_upto_region 32 with (fail)
      go_step
      iterate 6 (first | go_values | go_skip | go_guarded | go_step | go_upon | go_back)
      have hbr : bt < wr.heap.size := HS.out.1.lt
      exact tail33 wb bt wr.heap.size zb zo n (val x n) (val q n) q y t w _ cz tz hn0 hn hwb hzb hbr Hbt Hq rfl Hrow (hide (HS.out.alloc _)) (hide (row9_start _)) HOn Hlt Hz hzo _ _ _ _ _ _ _ _ _ _ _ _ _ _ _ _ _ _ _ _ _ _ _ _ _ _ _ _ _ _ _ _ _ _ _ _ _ _ _ _ _ _ _ _ _ _ _ _ _ _ _ _ _ _ _ _ _ _ _ _ _ _ _ _ _ _ _ _ _ _ _ _ _ _ _ _ _ _ _ _ _ _ _ _ _ _ _ _ _ _ _ _ _ _ _ _ _ _ _ _ _ _ _ _ _ _ _ _ _ _ _ _ _ _ _ _ _ _ _ _ _ _ _ _ _ _ _ _ _ _ _ _ _ _ _ _ _ _ _ _ _ _ _ _ _ _ _ _ _ _ _ _ _ _ _ _ _ _ _ _ _ _ _ _ _ _ _ _ _ _ _ _ _ _ _ _ _ _ _ _ _ _ _ _ _ _ _ _ _ _ _ _ _ _ _ _ _ _ _ _ _ _ _ _ _ _ _ _ _ _ _ _ _ _ _ _ _ _ _ _ _ _ _ _ _ _ _ _ _ _ _ _ _ _ _ _ _ _

end Go.Proofs.Qxb6002380a
