import Derived.Test.Qxb6002380aBig
namespace Go.Proofs.Qxb6002380a
open Go.RowKit

/-- Nine words as an array value's cells. -/
def nine (q : Nat → Nat) : Array Value := #[.int .u64 (q 0 : Nat), .int .u64 (q 1 : Nat), .int .u64 (q 2 : Nat), .int .u64 (q 3 : Nat), .int .u64 (q 4 : Nat), .int .u64 (q 5 : Nat), .int .u64 (q 6 : Nat), .int .u64 (q 7 : Nat), .int .u64 (q 8 : Nat)]

theorem arr9 {c : Array Value} {q : Nat → Nat} (hs : c.size = 9) (hc : ∀ i, i < 9 → c[i]? = some (.int .u64 (q i : Nat))) : c = nine q := by
  apply Array.ext_getElem?
  intro i
  by_cases hi : i < 9
  · rw [hc i hi]
    match i, hi with
    | 0, _ | 1, _ | 2, _ | 3, _ | 4, _ | 5, _ | 6, _ | 7, _ | 8, _ => rfl
  · rw [Array.getElem?_eq_none (by omega), Array.getElem?_eq_none (by simp [nine]; omega)]

theorem nine_size (q : Nat → Nat) : (nine q).size = 9 := rfl
theorem nine_get (q : Nat → Nat) (i : Nat) (hi : i < 9) : (nine q)[i]? = some (.int .u64 (q i : Nat)) := by
  match i, hi with
  | 0, _ | 1, _ | 2, _ | 3, _ | 4, _ | 5, _ | 6, _ | 7, _ | 8, _ => rfl

theorem words36' (b n cap : Nat) (a : Option Addr) (z : Nat → Nat) (w : World) (hn : n ≤ 9) (hi : IntIs w b a n cap z) :
    Calls Try.prog 36 #[.pointer (some ⟨b, 0, none⟩)] w fun e w' => e = .returned (.tuple #[.agg (nine (pad z n)), .bool true]) ∧ Below w.heap.size w w' := by
  refine (words36 b n cap a z w hn hi).mono ?_
  rintro e w' ⟨c, rfl, h1, h2, h3⟩
  rw [arr9 h1 h2]
  exact ⟨rfl, h3⟩

theorem alloc_set (w : World) (c c' : Array Value) (t : TypeId) (fr : Nat × Nat) : (w.alloc (.cells c t fr)).setRow w.heap.size c' = w.alloc (.cells c' t fr) := by
  unfold World.setRow World.alloc
  congr 1
  apply Array.ext
  · simp
  · intro i h1 h2
    simp only [Array.getElem_modify, Array.getElem_push]
    split
    · rename_i h; subst h; simp
    · have h3 : i < w.heap.size := by
        rename_i h
        simp at h1
        omega
      rw [dif_pos h3, dif_pos h3]

/-- A store of nine words into a block that has just been made. -/
theorem store_new {P : Program} {w : World} {ops : Array Oper} {rest : List Oper} {o : Oper} {a : Act} {Q : Exit → Act → World → Prop} (hgd : o.guard = none) (ty : TypeId) (x y : Operand) (ho : o.op = .store ty x y)
    (q : Nat → Nat) (c : Array Value) (hx : a.eval x = .pointer (some ⟨w.heap.size, 0, none⟩)) (hy : a.eval y = .agg (nine q)) (t : TypeId) (hi : (P.info? ty).map (·.size) = some 9) (hc : c.size = 9)
    (h : wpList P ops Q rest (a.put o.dst undef) (w.alloc (.cells (nine q) t (0, 0)))) : wpList P ops Q (o :: rest) a (w.alloc (.cells c t (0, 0))) := by
  refine wpList_store_at hgd ty x y ho w.heap.size 0 (nine q) hx hy t c (heap_alloc_new w _) hi (by rw [hc, nine_size]; omega) (all_one (nine_size q) (nine_get q)) ?_
  rw [splice_all (by rw [hc, nine_size]), alloc_set]
  exact h

theorem nine_row (w : World) (q : Nat → Nat) : (w.alloc (.cells (nine q) 70 (0, 0))).rowIs w.heap.size 70 9 (fun i => .int .u64 (q i : Nat)) :=
  ⟨_, heap_alloc_new w _, nine_size q, nine_get q⟩

theorem inf70 : (Try.prog.info? 70).map (·.size) = some 9 := by kernel_rfl

/-- A wordCurve's cells with p and n alone. -/
def c29 (q : Nat → Nat) (n : Nat) : Array Value := #[.int .u64 (q 0 : Nat), .int .u64 (q 1 : Nat), .int .u64 (q 2 : Nat), .int .u64 (q 3 : Nat), .int .u64 (q 4 : Nat), .int .u64 (q 5 : Nat), .int .u64 (q 6 : Nat), .int .u64 (q 7 : Nat), .int .u64 (q 8 : Nat), .int .i64 n,
  .int .u64 0, .int .u64 0, .int .u64 0, .int .u64 0, .int .u64 0, .int .u64 0, .int .u64 0, .int .u64 0, .int .u64 0, .int .u64 0, .int .u64 0, .int .u64 0, .int .u64 0, .int .u64 0, .int .u64 0, .int .u64 0, .int .u64 0, .int .u64 0, .int .u64 0]

theorem built85 (q : Nat → Nat) (n : Nat) : Try.prog.built 85 [(0, .agg (nine q)), (1, .int .i64 n)] = some (c29 q n) := by kernel_rfl

set_option maxRecDepth 100000 in
theorem build_curve {w : World} {ops : Array Oper} {rest : List Oper} {o : Oper} {a : Act} {Q : Exit → Act → World → Prop} (hg : o.guard = none) (x y : Operand) (ho : o.op = .build 85 #[(0, x), (1, y)])
    (q : Nat → Nat) (n : Nat) (hx : a.eval x = .agg (nine q)) (hy : a.eval y = .int .i64 n)
    (h : wpList Try.prog ops Q rest (a.put o.dst (.agg (c29 q n))) w) : wpList Try.prog ops Q (o :: rest) a w := by
  have e : (Try.prog.built 85 ((#[(0, x), (1, y)] : Array (Nat × Operand)).map fun (i, x) => (i, a.eval x)).toList) = some (c29 q n) := by
    have e1 : ((#[(0, x), (1, y)] : Array (Nat × Operand)).map fun (i, x) => (i, a.eval x)).toList = [(0, a.eval x), (1, a.eval y)] := by simp
    rw [e1, hx, hy]; exact built85 q n
  refine wpList_build hg 85 _ ho (by rw [e]; rfl) ?_
  rw [e]
  exact h

theorem c29_row (w : World) (q : Nat → Nat) (n : Nat) : (w.alloc (.cells (c29 q n) 85 (0, 0))).rowIs w.heap.size 85 29 (wc (fun j => if j < 9 then q j else 0) n) := by
  refine ⟨_, heap_alloc_new w _, rfl, fun i hi => ?_⟩
  have h : i = 0 ∨ i = 1 ∨ i = 2 ∨ i = 3 ∨ i = 4 ∨ i = 5 ∨ i = 6 ∨ i = 7 ∨ i = 8 ∨ i = 9 ∨ i = 10 ∨ i = 11 ∨ i = 12 ∨ i = 13 ∨ i = 14 ∨ i = 15 ∨ i = 16 ∨ i = 17 ∨ i = 18 ∨ i = 19 ∨ i = 20 ∨ i = 21 ∨ i = 22 ∨ i = 23 ∨ i = 24 ∨ i = 25 ∨ i = 26 ∨ i = 27 ∨ i = 28 := by omega
  rcases h with rfl | rfl | rfl | rfl | rfl | rfl | rfl | rfl | rfl | rfl | rfl | rfl | rfl | rfl | rfl | rfl | rfl | rfl | rfl | rfl | rfl | rfl | rfl | rfl | rfl | rfl | rfl | rfl | rfl <;> rfl

/-- Newton's iteration, in words. -/
def Newt (p : Nat) : Nat → Nat → Prop
  | 0, v => v = p
  | k + 1, v => ∃ u, Newt p k u ∧ (v : Int) % 18446744073709551616 = ((u : Int) * (2 - (p : Int) * (u : Int))) % 18446744073709551616

theorem Newt.five {p v : Nat} (hp : p % 2 = 1) (h : Newt p 5 v) (hv : v < W) : (p * ((W - v) % W) + 1) % W = 0 := by
  obtain ⟨v4, ⟨v3, ⟨v2, ⟨v1, ⟨v0, h0, h1⟩, h2⟩, h3⟩, h4⟩, h5⟩ := h
  have h0' : v0 = p := h0
  subst h0'
  obtain ⟨c, hc⟩ := newton (p := (v0 : Int)) (by omega) h1 h2 h3 h4 h5
  have e : ((v0 * ((W - v) % W) + 1 : Nat) : Int) % ((W : Nat) : Int) = 0 := by
    have e1 : (((W - v) % W : Nat) : Int) % 18446744073709551616 = (-(v : Int)) % 18446744073709551616 := by unfold W at *; omega
    obtain ⟨d, hd⟩ : ∃ d : Int, (((W - v) % W : Nat) : Int) = -(v : Int) + 18446744073709551616 * d := ⟨(((W - v) % W : Nat) : Int) / 18446744073709551616 - (-(v : Int)) / 18446744073709551616, by omega⟩
    have e2 : ((v0 * ((W - v) % W) + 1 : Nat) : Int) = 18446744073709551616 * (c + v0 * d) := by
      rw [Int.natCast_add, Int.natCast_mul, hd]
      grind
    rw [e2]
    unfold W
    exact Int.mul_emod_right _ _
  omega

theorem newt_wrap (p v : Nat) : ∃ v' : Nat, v' < 18446744073709551616 ∧ IntKind.u64.wrap ((v : Int) * IntKind.u64.wrap (2 - IntKind.u64.wrap ((p : Int) * (v : Int)))) = (v' : Int) ∧
    (v' : Int) % 18446744073709551616 = ((v : Int) * (2 - (p : Int) * (v : Int))) % 18446744073709551616 := by
  have e : IntKind.u64.wrap ((v : Int) * IntKind.u64.wrap (2 - IntKind.u64.wrap ((p : Int) * (v : Int)))) = ((v : Int) * (2 - (p : Int) * (v : Int))) % 18446744073709551616 := by
    rw [IntKind.wrap_u64, IntKind.wrap_u64, IntKind.wrap_u64]
    generalize (p : Int) * (v : Int) = a
    have h1 : (2 - a % 18446744073709551616) % 18446744073709551616 = (2 - a) % 18446744073709551616 := by omega
    rw [h1, Int.mul_emod, Int.emod_emod_of_dvd _ (Int.dvd_refl _), ← Int.mul_emod]
  rw [e]
  generalize ((v : Int) * (2 - (p : Int) * (v : Int))) = x
  exact ⟨(x % 18446744073709551616).toNat, by omega, by omega, by omega⟩

/-- The number one in nine words. -/
def oneW : Nat → Nat := fun i => if i = 0 then 1 else 0

theorem oneW_lt (k : Nat) : oneW k < W := by unfold oneW W; split <;> omega
theorem val_oneW {n : Nat} (h : 1 ≤ n) : val oneW n = 1 := by
  induction n with
  | zero => omega
  | succ n ih =>
    rw [val]
    rcases Nat.eq_zero_or_pos n with h0 | h0
    · subst h0; simp [val, oneW]
    · rw [ih h0]; have : oneW n = 0 := by unfold oneW; rw [if_neg (by omega)]
      rw [this]; simp

theorem val_pos {q : Nat → Nat} {n : Nat} (h : 1 ≤ n) (h0 : 0 < q 0) : 0 < val q n := by
  induction n with
  | zero => omega
  | succ n ih =>
    rw [val]
    rcases Nat.eq_zero_or_pos n with h1 | h1
    · subst h1; simp [val]; exact h0
    · have := ih h1; omega

/-- A wordCurve with nine words written at zo. -/
def over (q : Nat → Nat) (zo : Nat) (r : Nat → Nat) : Nat → Nat := fun j => if zo ≤ j ∧ j < zo + 9 then r (j - zo) else q j

theorem over_lt {q r : Nat → Nat} {zo : Nat} (hq : ∀ k, q k < W) (hr : ∀ k, r k < W) : ∀ k, over q zo r k < W := by
  intro k; unfold over; split
  · exact hr _
  · exact hq _
theorem over_low {q r : Nat → Nat} {zo k : Nat} (h : k < zo) : over q zo r k = q k := by unfold over; rw [if_neg (by omega)]

theorem wrote_wc {zo n wb : Nat} {q r : Nat → Nat} {w w' : World} (h : Wrote wb zo (fun k => .int .u64 (r k : Nat)) w w') (hzo : 10 ≤ zo) (hr : w.rowIs wb 85 29 (wc q n)) : w'.rowIs wb 85 29 (wc (over q zo r) n) :=
  (h.rowIs hr).congr fun j _ => by
    unfold wc over
    by_cases h1 : zo ≤ j ∧ j < zo + 9
    · rw [if_pos h1, if_neg (by omega), if_pos h1]
    · rw [if_neg h1, if_neg h1]

theorem row_cells {w : World} {b t : Nat} {q : Nat → Nat} (h : w.rowIs b t 9 (fun i => .int .u64 (q i : Nat))) {n : Nat} (hn : n ≤ 9) : ∀ i, i < n → w.cell? ⟨b, 0 + i, none⟩ = some (.int .u64 (q i : Nat)) := by
  intro i hi; rw [Nat.zero_add]; exact h.cell (i := i) (by omega)

theorem pad_zero (z : Nat → Nat) : pad z 0 = fun _ => 0 := by funext i; simp [pad]

/-- What newWordCurve answers. -/
def CurveP (n : Nat) (z : Nat → Nat) (w : World) (e : Ending) (w' : World) : Prop :=
  ∃ (wb : Nat) (q : Nat → Nat), e = .returned (.pointer (some ⟨wb, 0, none⟩)) ∧ w.heap.size ≤ wb ∧ w'.rowIs wb 85 29 (wc q n) ∧ (∀ k, q k < W) ∧ (∀ k, k < 9 → q k = pad z n k) ∧ (q 0 * q 10 + 1) % W = 0 ∧ Below w.heap.size w w'

set_option maxRecDepth 1000000 in
set_option maxHeartbeats 8000000 in
theorem curve35 (cb mb ab bb n cap : Nat) (a : Option Addr) (z z0 : Nat → Nat) (w : World) (hn0 : 1 ≤ n) (hn : n ≤ 9) (hz : ∀ i, i < n → z i < W) (hodd : z 0 % 2 = 1)
    (c0 : w.cell? ⟨cb, 0, none⟩ = some (.pointer (some ⟨mb, 0, none⟩))) (c1 : w.cell? ⟨cb, 1, none⟩ = some (.pointer (some ⟨ab, 0, none⟩))) (c2 : w.cell? ⟨cb, 2, none⟩ = some (.pointer (some ⟨bb, 0, none⟩)))
    (hm : IntIs w mb a n cap z) (ha : IntIs w ab none 0 0 z0) (hb : IntIs w bb none 0 0 z0) (hab : ab ≠ mb) (hbb : bb ≠ mb) :
    Calls Try.prog 35 #[.pointer (some ⟨cb, 0, none⟩)] w (CurveP n z w) := by
  have Hm := hide hm
  have Ha := hide ha
  have Hb := hide hb
  have hmb := hm.abs
  have HQ := hide (pad_lt hz)
  have h0 : pad z n 0 = z 0 := by simp [pad]; omega
  have hp0 : pad z n 0 % 2 = 1 := by rw [h0]; exact hodd
  have hpW : pad z n 0 < 18446744073709551616 := HQ.out 0
  have hand : bits .and .u64 ((pad z n 0 : Nat) : Int) 1 = 1 := by rw [and_one_u64 _ (by omega) (by omega)]; omega
  have Hodd : Hid (pad z n 0 % 2 = 1) := hide hp0
  clear hz hodd hm ha hb h0 hp0 hpW
  go_enter Try.func35, Try.ntmps35
  go_wp2_with (go_at_call 50; refine (bits50 mb _ _ hmb).mono ?_; rintro e w' ⟨rfl, hw⟩; have hw := hw.symm; subst hw)
  refine (words36' mb n cap a z w hn Hm.out).mono ?_
  rintro e w1 ⟨rfl, hb1⟩
  have HB1 := hide hb1
  clear hb1
  go_upto_region 3 with (refine store_new rfl 70 (.tmp 4) (.tmp 25) rfl (pad z n) _ rfl rfl 70 inf70 rfl ?_)
  obtain ⟨B1, hB1⟩ : ∃ B1, B1 = w1.heap.size := ⟨_, rfl⟩
  obtain ⟨w2, hw2⟩ : ∃ w2, w2 = w1.alloc (.cells (nine (pad z n)) 70 (0, 0)) := ⟨_, rfl⟩
  rw [← hw2, ← hB1]
  have HB2 : Hid (Below w.heap.size w w2) := hide (by rw [hw2]; exact HB1.out.alloc HB1.out.size _)
  have HR2 : Hid (w2.rowIs B1 70 9 (fun i => .int .u64 (pad z n i : Nat))) := hide (by rw [hw2, hB1]; exact nine_row _ _)
  have HC2 : Hid (w2.heap[B1]? = some (.cells (nine (pad z n)) 70 (0, 0))) := hide (by rw [hw2, hB1]; exact heap_alloc_new _ _)
  have hs2 : w.heap.size ≤ B1 := by rw [hB1]; exact HB1.out.size
  clear hw2 hB1
  have d0 := Below.some HB2.out c0
  have d1 := Below.some HB2.out c1
  have d2 := Below.some HB2.out c2
  have p0 := HR2.out.cell (i := 0) (by omega)
  have ca := fun k => cmp51 ab mb n cap 0 a z z0 (w2.drewN k) hn0 hab (Ha.out.below (below_drewN HB2.out k)) (Hm.out.below (below_drewN HB2.out k))
  have cb' := fun k => cmp51 bb mb n cap 0 a z z0 (w2.drewN k) hn0 hbb (Hb.out.below (below_drewN HB2.out k)) (Hm.out.below (below_drewN HB2.out k))
  have Hca := hide ca
  have Hcb := hide cb'
  clear ca cb'
  go_quiet (first | (go_at_call_of 51 (Value.pointer (some ⟨ab, 0, none⟩)); exact Calls.quiet_of (Hca.out _)) | (go_at_call_of 51 (Value.pointer (some ⟨bb, 0, none⟩)); exact Calls.quiet_of (Hcb.out _)))
  go_upto_region 5 with (fail)
  go_step
  go_upto_region 6 with (first | refine wpList_load_row rfl 70 (.tmp 4) rfl B1 rfl 70 (nine (pad z n)) (0, 0) (.array 9 35) HC2.out und70 rfl inf70 ?_ | refine build_curve rfl (.tmp 60) (.tmp 61) rfl (pad z n) n rfl rfl ?_)
  obtain ⟨wb, hwb⟩ : ∃ wb, wb = w2.heap.size := ⟨_, rfl⟩
  obtain ⟨w4, hw4⟩ : ∃ w4, w4 = (w2.drewN nq).alloc (.cells (c29 (pad z n) n) 85 (0, 0)) := ⟨_, rfl⟩
  rw [← hw4, ← hwb]
  obtain ⟨q0, hq0⟩ : ∃ q0 : Nat → Nat, q0 = fun j => if j < 9 then pad z n j else 0 := ⟨_, rfl⟩
  have HB4 : Hid (Below w.heap.size w w4) := hide (by rw [hw4]; exact (below_drewN HB2.out nq).alloc HB2.out.size _)
  have HW4 : Hid (w4.rowIs wb 85 29 (wc q0 n)) := hide (by rw [hw4, hwb, hq0]; exact c29_row (w2.drewN nq) (pad z n) n)
  have HR4 : Hid (w4.rowIs B1 70 9 (fun i => .int .u64 (pad z n i : Nat))) := hide (by rw [hw4]; exact HR2.out.of_block (Below.heap_alloc (w2.drewN nq) _ _ HR2.out.lt))
  have hB1w : B1 < wb := by rw [hwb]; exact HR2.out.lt
  have hq09 : q0 9 = 0 := by rw [hq0]; rfl
  have Hq0 : Hid (∀ k, k < 9 → q0 k = pad z n k) := hide (by intro k hk; rw [hq0]; simp [hk])
  have Hq0z : Hid (∀ k, 9 ≤ k → q0 k = 0) := hide (by intro k hk; rw [hq0]; simp; omega)
  clear hw4 hwb hq0 HB2 HR2 HC2 Hca Hcb d0 d1 d2 p0
  have e0 : w4.cell? ⟨B1, 0, none⟩ = some (.int .u64 (pad z n 0 : Nat)) := HR4.out.cell (i := 0) (by omega)
  obtain ⟨P0, hP0⟩ : ∃ P0, P0 = pad z n 0 := ⟨_, rfl⟩
  rw [← hP0] at e0
  have HP0 := hide hP0
  clear hP0
  go_wp2
  go_loopw [7, 66] (fun s7 s66 wr => ∃ (k v : Nat), k ≤ 5 ∧ v < 18446744073709551616 ∧ s7 = .int .u64 (v : Nat) ∧ s66 = .int .i64 (k : Int) ∧ Newt P0 k v ∧ wr = w4) (fun _ s66 _ => 5 - (intOf s66).toNat)
  case atStart => exact ⟨0, P0, by omega, by rw [HP0.out]; exact HQ.out 0, by go_num, by go_num, rfl, rfl⟩
  case round =>
    obtain ⟨k, v, hk, hv, rfl, rfl, hN, hw'⟩ := hrel
    have hw' := hw'.symm
    subst hw'
    have HN := hide hN
    clear hN
    by_cases hk5 : k < 5
    · have k5 : (k : Int) < 5 := by omega
      obtain ⟨v', hv', hwr, hmod⟩ := newt_wrap P0 v
      have Hmod := hide hmod
      clear hmod
      go_wp2
      go_roundw
      case rel => exact ⟨k + 1, v', by omega, hv', by go_num, by go_num, ⟨v, HN.out, Hmod.out⟩, by trivial⟩
      case measure => simp [intOf]; omega
    · have k5 : ¬ (k : Int) < 5 := by omega
      have HN5 : Hid (Newt P0 5 v) := hide (by have h := HN.out; rw [show k = 5 by omega] at h; exact h)
      clear HN
      obtain ⟨pi, hpi⟩ : ∃ pi, pi = (W - v) % W := ⟨_, rfl⟩
      have hneg : IntKind.u64.wrap (-(v : Int)) = (pi : Int) := by rw [hpi, IntKind.wrap_u64]; unfold W; omega
      have hpiW : pi < W := by rw [hpi]; exact Nat.mod_lt _ W_pos
      have Hinv : Hid ((P0 * pi + 1) % W = 0) := hide (by rw [hpi]; exact HN5.out.five (by rw [HP0.out]; exact Hodd.out) hv)
      clear hpi HN5
      have f10 : w4.cell? ⟨wb, 10, none⟩ = some (.int .u64 (q0 10 : Nat)) := HW4.out.cell (i := 10) (by omega)
      have g10 := HW4.out.frozen 10
      go_upto_region 12 with (fail)
      clear hneg
      obtain ⟨w5, hw5⟩ : ∃ w5, w5 = w4.setCell ⟨wb, 10, none⟩ (.int .u64 (pi : Nat)) := ⟨_, rfl⟩
      rw [← hw5]
      have HB5 : Hid (Below w.heap.size w w5) := hide (by rw [hw5]; exact HB4.out.setCell (p := ⟨wb, 10, none⟩) (show w.heap.size ≤ wb by omega) _)
      obtain ⟨q1, hq1⟩ : ∃ q1, q1 = up q0 10 pi := ⟨_, rfl⟩
      have HW5 : Hid (w5.rowIs wb 85 29 (wc q1 n)) := hide (by
        rw [hw5, hq1]
        refine (HW4.out.set 10 _).congr fun j _ => ?_
        unfold wc up
        by_cases e : j = 10
        · subst e; simp
        · simp [e])
      have Hq1 : Hid (∀ k, k < 9 → q1 k = pad z n k) := hide (by intro k hk; rw [hq1, up_ne _ (by omega)]; exact Hq0.out k hk)
      have Hq1W : Hid (∀ k, q1 k < W) := hide (by
        intro k; rw [hq1]
        refine up_lt (fun k => ?_) hpiW k
        rcases Nat.lt_or_ge k 9 with h | h
        · rw [Hq0.out k h]; exact HQ.out k
        · rw [Hq0z.out k h]; exact W_pos)
      have Hinv1 : Hid ((q1 0 * q1 10 + 1) % W = 0) := hide (by
        have e1 : q1 0 = P0 := by rw [Hq1.out 0 (by omega), HP0.out]
        have e2 : q1 10 = pi := by rw [hq1, up_same]
        rw [e1, e2]; exact Hinv.out)
      clear hw5 hq1 HB4 HW4 HR4 e0 f10 g10 Hinv Hq0 Hq0z hq09
      go_step
      go_upto_region 13 with (refine store_new rfl 70 (.tmp 8) (.tmp 81) rfl oneW _ rfl rfl 70 inf70 rfl ?_)
      obtain ⟨ob, hob⟩ : ∃ ob, ob = w5.heap.size := ⟨_, rfl⟩
      obtain ⟨w6, hw6⟩ : ∃ w6, w6 = w5.alloc (.cells (nine oneW) 70 (0, 0)) := ⟨_, rfl⟩
      rw [← hw6, ← hob]
      have hA6 : Below w5.heap.size w5 w6 := by rw [hw6]; exact (Below.refl _ _).alloc (Nat.le_refl _) _
      have HB6 : Hid (Below w.heap.size w w6) := hide (HB5.out.trans (hA6.mono HB5.out.size))
      have HW6 : Hid (w6.rowIs wb 85 29 (wc q1 n)) := hide (rowIs_below HW5.out hA6)
      have HO6 : Hid (w6.rowIs ob 70 9 (fun i => .int .u64 (oneW i : Nat))) := hide (by rw [hw6, hob]; exact nine_row _ _)
      have hwo : wb ≠ ob := by rw [hob]; exact Nat.ne_of_lt HW5.out.lt
      clear hA6 hw6 hob HB5 HW5
      have k1 := Below.some HB6.out c1
      go_step
      go_wp2_with fail
      refine (words36' ab 0 0 none z0 w6 (by omega) (Ha.out.below HB6.out)).mono ?_
      rintro e w7 ⟨rfl, hb7⟩
      clear k1
      have HB7 : Hid (Below w.heap.size w w7) := hide (HB6.out.trans (hb7.mono HB6.out.size))
      have HW7 : Hid (w7.rowIs wb 85 29 (wc q1 n)) := hide (rowIs_below HW6.out hb7)
      have HO7 : Hid (w7.rowIs ob 70 9 (fun i => .int .u64 (oneW i : Nat))) := hide (rowIs_below HO6.out hb7)
      clear hb7 HB6 HW6 HO6
      go_upto_region 14 with (refine store_new rfl 70 (.tmp 9) (.tmp 88) rfl (pad z0 0) _ rfl rfl 70 inf70 rfl ?_)
      obtain ⟨xb, hxb⟩ : ∃ xb, xb = w7.heap.size := ⟨_, rfl⟩
      obtain ⟨w8, hw8⟩ : ∃ w8, w8 = w7.alloc (.cells (nine (pad z0 0)) 70 (0, 0)) := ⟨_, rfl⟩
      rw [← hw8, ← hxb]
      have hA8 : Below w7.heap.size w7 w8 := by rw [hw8]; exact (Below.refl _ _).alloc (Nat.le_refl _) _
      have HB8 : Hid (Below w.heap.size w w8) := hide (HB7.out.trans (hA8.mono HB7.out.size))
      have HW8 : Hid (w8.rowIs wb 85 29 (wc q1 n)) := hide (rowIs_below HW7.out hA8)
      have HO8 : Hid (w8.rowIs ob 70 9 (fun i => .int .u64 (oneW i : Nat))) := hide (rowIs_below HO7.out hA8)
      have HX8 : Hid (w8.rowIs xb 70 9 (fun i => .int .u64 (pad z0 0 i : Nat))) := hide (by rw [hw8, hxb]; exact nine_row _ _)
      have hwx : wb ≠ xb := by rw [hxb]; exact Nat.ne_of_lt HW7.out.lt
      clear hA8 hw8 hxb HB7 HW7 HO7
      have k2 := Below.some HB8.out c2
      go_step
      go_wp2_with fail
      refine (words36' bb 0 0 none z0 w8 (by omega) (Hb.out.below HB8.out)).mono ?_
      rintro e w9 ⟨rfl, hb9⟩
      clear k2
      have HB9 : Hid (Below w.heap.size w w9) := hide (HB8.out.trans (hb9.mono HB8.out.size))
      have HW9 : Hid (w9.rowIs wb 85 29 (wc q1 n)) := hide (rowIs_below HW8.out hb9)
      have HO9 : Hid (w9.rowIs ob 70 9 (fun i => .int .u64 (oneW i : Nat))) := hide (rowIs_below HO8.out hb9)
      have HX9 : Hid (w9.rowIs xb 70 9 (fun i => .int .u64 (pad z0 0 i : Nat))) := hide (rowIs_below HX8.out hb9)
      clear hb9 HB8 HW8 HO8 HX8
      go_upto_region 15 with (refine store_new rfl 70 (.tmp 11) (.tmp 96) rfl (pad z0 0) _ rfl rfl 70 inf70 rfl ?_)
      obtain ⟨yb, hyb⟩ : ∃ yb, yb = w9.heap.size := ⟨_, rfl⟩
      obtain ⟨v0, hv0⟩ : ∃ v0, v0 = w9.alloc (.cells (nine (pad z0 0)) 70 (0, 0)) := ⟨_, rfl⟩
      rw [← hv0, ← hyb]
      have hA : Below w9.heap.size w9 v0 := by rw [hv0]; exact (Below.refl _ _).alloc (Nat.le_refl _) _
      have HBv : Hid (Below w.heap.size w v0) := hide (HB9.out.trans (hA.mono HB9.out.size))
      have HWv : Hid (v0.rowIs wb 85 29 (wc q1 n)) := hide (rowIs_below HW9.out hA)
      have HOv : Hid (v0.rowIs ob 70 9 (fun i => .int .u64 (oneW i : Nat))) := hide (rowIs_below HO9.out hA)
      have HXv : Hid (v0.rowIs xb 70 9 (fun i => .int .u64 (pad z0 0 i : Nat))) := hide (rowIs_below HX9.out hA)
      have HYv : Hid (v0.rowIs yb 70 9 (fun i => .int .u64 (pad z0 0 i : Nat))) := hide (by rw [hv0, hyb]; exact nine_row _ _)
      have hwy : wb ≠ yb := by rw [hyb]; exact Nat.ne_of_lt HW9.out.lt
      clear hA hv0 hyb HB9 HW9 HO9 HX9
      have hwbw : w.heap.size ≤ wb := by omega
      have HPp : Hid (0 < val q1 n) := hide (val_pos hn0 (by rw [Hq1.out 0 (by omega)]; have := Hodd.out; omega))
      have HZ : Hid (∀ k, pad z0 0 k < W) := hide (by intro k; rw [pad_zero]; exact W_pos)
      have HZv : Hid (val (pad z0 0) n = 0) := hide (val_zero fun i _ => by rw [pad_zero])
      go_step
      go_wp2_with fail
      obtain ⟨cz, hcz, hczs, -⟩ := HWv.out
      refine (mulC wb xb 0 ob 0 wb 11 n q1 (pad z0 0) oneW v0 cz 85 hn0 hn Hq1W.out HZ.out oneW_lt HWv.out (row_cells HXv.out hn) (row_cells HOv.out hn) hcz (by omega) Hinv1.out (by rw [HZv.out, Nat.zero_mul]; exact Nat.mul_pos HPp.out (Wp_pos n))).mono ?_
      clear hcz hczs
      rintro e v1 ⟨rfl, r1, hr1, hwr⟩
      have HB1' : Hid (Below w.heap.size w v1) := hide (HBv.out.trans (hwr.below hwbw HBv.out.size))
      have HW1 : Hid (v1.rowIs wb 85 29 (wc (over q1 11 r1) n)) := hide (wrote_wc hwr (by omega) HWv.out)
      have HO1 : Hid (v1.rowIs ob 70 9 (fun i => .int .u64 (oneW i : Nat))) := hide (hwr.other (Ne.symm hwo) HOv.out)
      have HY1 : Hid (v1.rowIs yb 70 9 (fun i => .int .u64 (pad z0 0 i : Nat))) := hide (hwr.other (Ne.symm hwy) HYv.out)
      obtain ⟨q2, hq2⟩ : ∃ q2, q2 = over q1 11 r1 := ⟨_, rfl⟩
      rw [← hq2] at HW1
      have Hq2 : Hid (∀ k, k < 11 → q2 k = q1 k) := hide (by intro k hk; rw [hq2, over_low hk])
      have Hq2W : Hid (∀ k, q2 k < W) := hide (by rw [hq2]; exact over_lt Hq1W.out hr1.1)
      clear hr1 hwr hq2 HBv HWv HOv HXv HYv
      have HP2 : Hid (0 < val q2 n) := hide (by rw [val_congr fun i hi => Hq2.out i (by omega)]; exact HPp.out)
      have Hinv2 : Hid ((q2 0 * q2 10 + 1) % W = 0) := hide (by rw [Hq2.out 0 (by omega), Hq2.out 10 (by omega)]; exact Hinv1.out)
      go_wp2_with fail
      obtain ⟨cz, hcz, hczs, -⟩ := HW1.out
      refine (mulC wb yb 0 ob 0 wb 20 n q2 (pad z0 0) oneW v1 cz 85 hn0 hn Hq2W.out HZ.out oneW_lt HW1.out (row_cells HY1.out hn) (row_cells HO1.out hn) hcz (by omega) Hinv2.out (by rw [HZv.out, Nat.zero_mul]; exact Nat.mul_pos HP2.out (Wp_pos n))).mono ?_
      clear hcz hczs
      rintro e v2 ⟨rfl, r2, hr2, hwr⟩
      have HBv2 : Hid (Below w.heap.size w v2) := hide (HB1'.out.trans (hwr.below hwbw HB1'.out.size))
      have HW2 : Hid (v2.rowIs wb 85 29 (wc (over q2 20 r2) n)) := hide (wrote_wc hwr (by omega) HW1.out)
      have HO2 : Hid (v2.rowIs ob 70 9 (fun i => .int .u64 (oneW i : Nat))) := hide (hwr.other (Ne.symm hwo) HO1.out)
      have Hr2 := hide hr2
      obtain ⟨q3, hq3⟩ : ∃ q3, q3 = over q2 20 r2 := ⟨_, rfl⟩
      rw [← hq3] at HW2
      have Hq3 : Hid (∀ k, k < 20 → q3 k = q2 k) := hide (by intro k hk; rw [hq3, over_low hk])
      have Hq3r : Hid (∀ k, k < 9 → q3 (20 + k) = r2 k) := hide (by intro k hk; rw [hq3]; unfold over; rw [if_pos (by omega), Nat.add_sub_cancel_left])
      have Hq3W : Hid (∀ k, q3 k < W) := hide (by rw [hq3]; exact over_lt Hq2W.out hr2.1)
      clear hr2 hwr hq3 HB1' HW1 HO1 HY1
      have HP3 : Hid (val q3 n = val q2 n) := hide (val_congr fun i hi => Hq3.out i (by omega))
      have Hinv3 : Hid ((q3 0 * q3 10 + 1) % W = 0) := hide (by rw [Hq3.out 0 (by omega), Hq3.out 10 (by omega)]; exact Hinv2.out)
      have Hlt3 : Hid (val r2 n * val oneW n < val q3 n * W ^ n) := hide (by
        rw [val_oneW hn0, Nat.mul_one, HP3.out]
        exact Nat.lt_of_lt_of_le Hr2.out.2.2.1 (Nat.le_mul_of_pos_right _ (Wp_pos n)))
      have Hx3 : Hid (∀ i, i < n → v2.cell? ⟨wb, 20 + i, none⟩ = some (.int .u64 (r2 i : Nat))) := hide (by
        intro i hi
        rw [HW2.out.cell (i := 20 + i) (by omega), wc_word (by omega), Hq3r.out i (by omega)])
      obtain ⟨cz, hcz, hczs, -⟩ := HW2.out
      have cm := mulC wb wb 20 ob 0 wb 20 n q3 r2 oneW v2.drew cz 85 hn0 hn Hq3W.out Hr2.out.1 oneW_lt HW2.out.drew Hx3.out (row_cells HO2.out.drew hn) hcz (by omega) Hinv3.out Hlt3.out
      have Hcm := hide cm
      clear hcz hczs cm
      go_upto_region 17 with (fail)
      go_region_held3 (fun _ => True) (trivial) (first | (go_at_call 39; refine Hcm.out.mono ?_; rintro e v3 ⟨rfl, r3, hr3, hwr3⟩; have HR3 := hide (And.intro hr3 hwr3); clear hr3 hwr3))
      go_wp2
      go_ret
      have hwr := HR3.out.2
      refine ⟨wb, over q3 20 r3, rfl, hwbw, wrote_wc hwr (by omega) HW2.out.drew, over_lt Hq3W.out HR3.out.1.1, fun k hk => ?_, ?_, HBv2.out.drew.trans (hwr.below hwbw HBv2.out.size)⟩
      · rw [over_low (by omega), Hq3.out k (by omega), Hq2.out k (by omega), Hq1.out k hk]
      · rw [over_low (by omega), over_low (by omega)]; exact Hinv3.out
end Go.Proofs.Qxb6002380a
