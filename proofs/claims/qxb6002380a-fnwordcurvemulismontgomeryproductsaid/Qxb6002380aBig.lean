import Derived.Test.Qxb6002380aMul
import Derived.LaidEqlPtr
namespace Go.Proofs.Qxb6002380a
open Go.RowKit

/-- A big.Int that is not negative: its n words. -/
def IntIs (w : World) (b : Nat) (a : Option Addr) (n cap : Nat) (z : Nat → Nat) : Prop :=
  w.heap[b]? = some (.cells #[.bool false, .slice a n cap] 64 (0, 0)) ∧ (n = 0 ∨ ∃ d o, a = some ⟨d, o, none⟩ ∧ ∀ i, i < n → w.cell? ⟨d, o + i, none⟩ = some (.int .u64 (z i : Nat)))

theorem IntIs.lt {w : World} {b n cap : Nat} {a : Option Addr} {z : Nat → Nat} (h : IntIs w b a n cap z) : b < w.heap.size := (Array.getElem?_eq_some_iff.1 h.1).1
theorem IntIs.neg {w : World} {b n cap : Nat} {a : Option Addr} {z : Nat → Nat} (h : IntIs w b a n cap z) : w.cell? ⟨b, 0, none⟩ = some (.bool false) := by rw [cell_of_row w b 0 _ _ _ h.1]; rfl
theorem IntIs.abs {w : World} {b n cap : Nat} {a : Option Addr} {z : Nat → Nat} (h : IntIs w b a n cap z) : w.cell? ⟨b, 1, none⟩ = some (.slice a n cap) := by rw [cell_of_row w b 1 _ _ _ h.1]; rfl

theorem IntIs.below {w w' : World} {b n cap : Nat} {a : Option Addr} {z : Nat → Nat} (h : IntIs w b a n cap z) (hb : Below w.heap.size w w') : IntIs w' b a n cap z :=
  ⟨(hb.block b h.lt).trans h.1, h.2.imp id fun ⟨d, o, ha, hc⟩ => ⟨d, o, ha, fun i hi => Below.some hb (hc i hi)⟩⟩

theorem size64 : (Try.prog.info? 64).map (·.size) = some 2 := by kernel_rfl

/-- Int.Bits. -/
theorem bits50 (b : Nat) (v : Value) (w : World) (h : w.cell? ⟨b, 1, none⟩ = some v) : Calls Try.prog 50 #[.pointer (some ⟨b, 0, none⟩)] w fun e w' => e = .returned v ∧ w' = w := by
  go_enter Try.func50, Try.ntmps50
  go_wp2
  go_ret
  exact ⟨rfl, rfl⟩

/-- nat.cmp where the left one is empty and the right one is not. -/
theorem cmp59 (a : Option Addr) (n cap cap0 : Nat) (w : World) (hn : 0 < n) : Calls Try.prog 59 #[.slice none 0 cap0, .slice a n cap] w fun e w' => e = .returned (.int .i64 (-1)) ∧ w' = w := by
  have hn' : (0 : Int) < (n : Int) := by omega
  have h1 : ((0 : Int) != (n : Int)) = true := by rw [bne_iff_ne]; omega
  go_enter Try.func59, Try.ntmps59
  go_wp2
  go_ret
  exact ⟨rfl, rfl⟩

set_option maxRecDepth 100000 in
set_option maxHeartbeats 1000000 in
/-- Int.Cmp of zero with a positive number. -/
theorem cmp51 (ab mb n cap cap0 : Nat) (a : Option Addr) (z z0 : Nat → Nat) (w : World) (hn : 0 < n) (hne : ab ≠ mb) (ha : IntIs w ab none 0 cap0 z0) (hm : IntIs w mb a n cap z) :
    Calls Try.prog 51 #[.pointer (some ⟨ab, 0, none⟩), .pointer (some ⟨mb, 0, none⟩)] w fun e w' => e = .returned (.int .i64 (-1)) ∧ ∃ m, w' = w.drewN m := by
  have c59 := fun w => cmp59 a n cap cap0 w hn
  have ha0 := ha.neg
  have ha1 := ha.abs
  have hm0 := hm.neg
  have hm1 := hm.abs
  obtain ⟨j, hj, hjs⟩ := Option.map_eq_some_iff.1 size64
  have heq : (binOp .eql 61 (.pointer (some ⟨ab, 0, none⟩)) (.pointer (some ⟨mb, 0, none⟩))).run Try.prog w = .ok (.bool false) w :=
    run_eql_ptr_other w (te := 64) (by kernel_rfl) hj (by rw [hjs]; decide) (by intro e; cases e; exact hne rfl) ha.1 hm.1
  clear ha hm hj hjs
  go_enter Try.func51, Try.ntmps51
  go_wp2_with (simp only [heq])
  go_quiet (fail)
  go_wp2
  go_quiet (exact (c59 _).mono fun _ _ h => ⟨h.1, _, h.2⟩)
  go_wp2
  go_ret
  exact ⟨rfl, _, rfl⟩

/-- The nine words that wordsOf makes. -/
def pad (z : Nat → Nat) (n : Nat) : Nat → Nat := fun i => if i < n then z i else 0

theorem pad_lt {z : Nat → Nat} {n : Nat} (h : ∀ i, i < n → z i < W) : ∀ k, pad z n k < W := by
  intro k; unfold pad; split
  · exact h k (by assumption)
  · exact W_pos

theorem splice_all {c0 c : Array Value} (h : c0.size = c.size) : splice c0 0 c.toList = c := by
  have e : c0.toList.drop (0 + c.toList.length) = [] := List.drop_of_length_le (by simp; omega)
  unfold splice
  rw [e]
  simp

theorem results_cell_tmp {P : Program} {fn : Func} {p u : Tmp} {ty : TypeId} (h : fn.results = #[.cell p ty, .tmp u]) (tmps : Array Value) (w : World) (g : Nat) (t : TypeId) (cs : Array Value) (fr : Nat × Nat) (d : TypeDesc)
    (hp : tmps.getD p undef = .pointer (Option.some ⟨g, 0, none⟩)) (hg : w.heap[g]? = Option.some (.cells cs t fr))
    (hu : P.underlying ty = Option.some d) (hd : (match d with | .struct _ | .array _ _ => true | _ => false) = true) (hi : (P.info? ty).map (·.size) = Option.some cs.size) :
    (results fn tmps).run P w = .ok (.tuple #[.agg cs, tmps.getD u undef]) w := by
  have hp' : tmps[p]?.getD undef = .pointer (Option.some ⟨g, 0, none⟩) := by simpa using hp
  simp [results, h, hp', asAddr, run_loadVar_row w g t ty cs fr d hg hu hd hi]

theorem two9 {w w' : World} (h : w' = (w.alloc (.cells #[.int .u64 0, .int .u64 0, .int .u64 0, .int .u64 0, .int .u64 0, .int .u64 0, .int .u64 0, .int .u64 0, .int .u64 0] 70 (0, 0))).alloc (.cells #[.int .u64 0, .int .u64 0, .int .u64 0, .int .u64 0, .int .u64 0, .int .u64 0, .int .u64 0, .int .u64 0, .int .u64 0] 70 (0, 0))) :
    w'.rowIs w.heap.size 70 9 (fun _ => .int .u64 0) ∧ w'.rowIs (w.heap.size + 1) 70 9 (fun _ => .int .u64 0) ∧ Below w.heap.size w w' := by
  have h1 := row9_start w
  have h2 := row9_start (w.alloc (.cells #[.int .u64 0, .int .u64 0, .int .u64 0, .int .u64 0, .int .u64 0, .int .u64 0, .int .u64 0, .int .u64 0, .int .u64 0] 70 (0, 0)))
  have e : (w.alloc (.cells #[.int .u64 0, .int .u64 0, .int .u64 0, .int .u64 0, .int .u64 0, .int .u64 0, .int .u64 0, .int .u64 0, .int .u64 0] 70 (0, 0))).heap.size = w.heap.size + 1 := by simp
  rw [e] at h2
  subst h
  exact ⟨h1.of_block (Below.heap_alloc _ _ _ (by omega)), h2, ((Below.refl _ w).alloc (Nat.le_refl _) _).alloc (by omega) _⟩

set_option maxRecDepth 100000 in
set_option maxHeartbeats 1000000 in
/-- wordsOf. -/
theorem words36 (b n cap : Nat) (a : Option Addr) (z : Nat → Nat) (w : World) (hn : n ≤ 9) (hi : IntIs w b a n cap z) :
    Calls Try.prog 36 #[.pointer (some ⟨b, 0, none⟩)] w fun e w' => ∃ c : Array Value, e = .returned (.tuple #[.agg c, .bool true]) ∧ c.size = 9 ∧ (∀ i, i < 9 → c[i]? = some (.int .u64 (pad z n i : Nat))) ∧ Below w.heap.size w w' := by
  have hn9 : (n : Int) ≤ 9 := by omega
  have Hi := hide hi
  have h1 := hi.abs
  obtain ⟨S, hS⟩ : ∃ S, S = w.heap.size := ⟨_, rfl⟩
  clear hi
  go_enter Try.func36, Try.ntmps36
  go_wp2_with fail
  refine (bits50 b (.slice a n cap) _ (Below.some (two9 rfl).2.2 h1)).mono ?_
  rintro e w1 ⟨rfl, hw⟩
  obtain ⟨r1, r2, r3⟩ := two9 hw
  have Hi1 := hide (Hi.out.below r3)
  rw [← hS] at r1 r2 r3
  have HR1 := hide r1
  have HR2 := hide r2
  have HR3 := hide r3
  clear r1 r2 r3 hw h1
  rw [← hS]
  have HS := hide hS
  clear hS
  go_wp2
  go_loopw [16] (fun s16 wr => ∃ i : Nat, i ≤ n ∧ s16 = .int .i64 (i : Int) ∧ wr.rowIs (S + 1) 70 9 (fun k => .int .u64 (pad z i k : Nat)) ∧ Below (S + 1) w1 wr) (fun s16 _ => n - (intOf s16).toNat)
  case atStart => exact ⟨0, by omega, by go_num, HR2.out, Below.refl _ _⟩
  case round =>
    obtain ⟨i, hin, rfl, hr, hb⟩ := hrel
    have HR := hide hr
    have HB := hide hb
    clear hr hb
    by_cases hlt : i < n
    · have i1 : (i : Int) < (n : Int) := by omega
      have i2 : (i : Int) < 9 := by omega
      obtain ⟨d, o, rfl, hc⟩ := Hi1.out.2.resolve_left (by omega)
      have hd : d < S + 1 := by
        obtain ⟨d', o', e', hc'⟩ := Hi.out.2.resolve_left (by omega)
        cases e'
        have h := World.block_lt_of_cell? w _ (hc' i hlt)
        have h2 := HS.out
        simp only at h
        omega
      have cd : wr.cell? ⟨d, o + i, none⟩ = some (.int .u64 (z i)) := cell_below HB.out hd (hc i hlt)
      have cs : wr.cell? ⟨S + 1, i, none⟩ = some (.int .u64 (pad z i i : Nat)) := HR.out.cell (i := i) (by omega)
      have cf := HR.out.frozen i
      clear hc
      go_wp2
      go_roundw
      case rel =>
        refine ⟨i + 1, by omega, by go_num, (HR.out.set i _).congr fun k _ => ?_, HB.out.setCell (p := ⟨S + 1, i, none⟩) (Nat.le_refl _) _⟩
        unfold pad
        by_cases e : k = i
        · simp [e]
        · have e1 : (k < i + 1) = (k < i) := by rw [eq_iff_iff]; omega
          simp only [e, if_false, e1]
      case measure => simp [intOf]; omega
    · have i1 : ¬ (i : Int) < (n : Int) := by omega
      have ein : i = n := by omega
      obtain ⟨c, hc, hcs, hcc⟩ := HR.out
      obtain ⟨c0, hc0, hcs0, hcc0⟩ := HR1.out
      have Hc := hide hc
      have Hcc := hide hcc
      have Hone := hide (all_one hcs hcc)
      have Hinf := hide (info70 hcs)
      have Hc0 : Hid (wr.heap[S]? = some (.cells c0 70 (0, 0))) := hide ((HB.out.block S (by omega)).trans hc0)
      have hfit : 0 + c.size ≤ c0.size := by omega
      clear hc hcc hc0 hcc0
      rw [ein] at Hcc
      have Hw : Hid (Below w.heap.size w (wr.setRow S (splice c0 0 c.toList))) := hide (below_setRow (((HS.out ▸ HR3.out)).trans (HB.out.mono (by have := HS.out; omega))) (by have := HS.out; omega) _)
      have Hres : Hid ((wr.setRow S (splice c0 0 c.toList)).heap[S]? = some (.cells c 70 (0, 0))) := hide (by
        rw [setRow_heap wr S c0 _ 70 _ Hc0.out]
        rw [splice_all (by omega)])
      go_wp2_with (first | refine wpList_load_row rfl 70 (.tmp 4) rfl (S + 1) rfl 70 c (0, 0) (.array 9 35) Hc.out und70 rfl Hinf.out ?_ | refine wpList_store_at rfl 70 (.tmp 2) (.tmp 25) rfl S 0 c rfl rfl 70 c0 Hc0.out Hinf.out hfit Hone.out ?_)
      refine bodyPost_ret (results_cell_tmp rfl _ _ S 70 c (0, 0) (.array 9 35) rfl Hres.out und70 rfl Hinf.out) rfl ?_
      exact ⟨c, rfl, hcs, Hcc.out, Hw.out⟩
end Go.Proofs.Qxb6002380a
