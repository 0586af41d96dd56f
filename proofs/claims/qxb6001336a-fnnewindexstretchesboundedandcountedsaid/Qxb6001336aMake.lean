import Derived.Test.Qxb6001336aZero
import Derived.Test.Qxb6001336aNew
namespace Go.Proofs.Qxb6001336a
open Go.RowKit

/-- Six values of one cell each: what an index value is. -/
structure Six (f s sh st ca cr : Value) : Prop where
  h0 : f.oneCell' = true
  h1 : s.oneCell' = true
  h2 : sh.oneCell' = true
  h3 : st.oneCell' = true
  h4 : ca.oneCell' = true
  h5 : cr.oneCell' = true

/-- ZZNewIndex hands on what newIndex gives: over whatever is known of it. -/
theorem zznew_of {v0 : Value} {split : Bool} {w : World} {R : Value → Value → Value → Value → Value → Value → World → Prop}
    (h : Calls Try.prog 21 #[v0, .bool split] (w.alloc (.cells #[.int .i32 0, .slice none 0 0, .int .u64 0, .slice none 0 0, .slice none 0 0, .slice none 0 0] 32)) (fun e w1 => ∃ f s sh st ca cr, e = .returned (.agg #[f, s, sh, st, ca, cr]) ∧ Six f s sh st ca cr ∧
      Below (w.alloc (.cells #[.int .i32 0, .slice none 0 0, .int .u64 0, .slice none 0 0, .slice none 0 0, .slice none 0 0] 32)).heap.size (w.alloc (.cells #[.int .i32 0, .slice none 0 0, .int .u64 0, .slice none 0 0, .slice none 0 0, .slice none 0 0] 32)) w1 ∧ R f s sh st ca cr w1)) :
    Calls Try.prog 8 #[v0, .bool split] w (fun e w' => ∃ f s sh st ca cr w1, e = .returned (.agg #[f, s, sh, st, ca, cr]) ∧ Six f s sh st ca cr ∧ Below (w.heap.size + 1) (w.alloc (.cells #[.int .i32 0, .slice none 0 0, .int .u64 0, .slice none 0 0, .slice none 0 0, .slice none 0 0] 32)) w1 ∧
      R f s sh st ca cr w1 ∧ w' = w1.setRow w.heap.size #[f, s, sh, st, ca, cr]) := by
  have H := hide h
  clear h
  go_enter Try.func8, Try.ntmps8
  go_wp2_with fail
  refine H.out.mono ?_
  rintro e w1 ⟨f, s, sh, st, ca, cr, rfl, six, hb, hR⟩
  have HR := hide hR
  have hb' := hb
  rw [World.size_alloc] at hb'
  have Hx : Hid (XRow w1 w.heap.size (.int .i32 0) (.slice none 0 0) (.int .u64 0) (.slice none 0 0) (.slice none 0 0) (.slice none 0 0)) := (XRow.new w _ _ _ _ _ _).of_block (hb'.block _ (by omega))
  have HB := hide hb'
  clear hR hb hb'
  go_wp2_with (((with_reducible show wpList _ _ _ _ _ _); refine wpList_store_row rfl 32 (.tmp 4) (.tmp 7) rfl w.heap.size #[f, s, sh, st, ca, cr] rfl rfl 32 _ Hx.out Try.size32 rfl (one6 six.h0 six.h1 six.h2 six.h3 six.h4 six.h5) ?_))
  refine bodyPost_ret (results_cell_row Try.results8 _ _ w.heap.size 32 #[f, s, sh, st, ca, cr] (0, 0) _ rfl (setRow_heap _ _ _ _ _ _ Hx.out) Try.underlying32 rfl Try.size32) rfl ?_
  exact ⟨f, s, sh, st, ca, cr, w1, rfl, six, HB.out, HR.out, rfl⟩

theorem new_false (sb : Nat) : NewFalse sb := fun so p cap T z w hn hcap hs hg hT => new_any sb so p cap T false z w hn hcap hs hg hT (fun h => by cases h)
theorem new_pos (sb so p cap T : Nat) (split : Bool) (z : Nat → Int) (w : World) (hn : p + 1 ≤ 65536) (hcap : p + 1 ≤ cap) (hs : ∀ i, i < p + 1 → w.cell? ⟨sb, so + i, none⟩ = some (.int .i32 (z i))) (hg : Good z (p + 1)) (hT : z p - z 0 = (T : Int)) :
    Calls Try.prog 21 #[.slice (some ⟨sb, so, none⟩) (p + 1) cap, .bool split] w (NewP w sb so (p + 1) cap T split z) :=
  new_any sb so p cap T split z w hn hcap hs hg hT (fun _ => new_false sb)

theorem NewP.up {w w1 : World} {o : Obj} {sb so n cap T : Nat} {split : Bool} {z : Nat → Int} {e : Ending} (h : NewP (w.alloc o) sb so n cap T split z e w1) (cs : Array Value) : NewP w sb so n cap T split z e (w1.setRow w.heap.size cs) := by
  obtain ⟨sh, q, S, cav, crv, h0, h1, h2, h3, h4, h5, h6, h7, h8, h9, h10⟩ := h
  rw [World.size_alloc] at h6 h8
  refine ⟨sh, q, S, cav, crv, h0, h1, h2, h3, h4, h5, by omega, h7.of_block (setRow_other _ _ _ _ (by omega)), below_setRow (((Below.refl _ _).alloc (Nat.le_refl _) _).trans (h8.mono (by omega))) (Nat.le_refl _) _, h9, fun a b => ?_⟩
  obtain ⟨base, hb, hA, hR⟩ := h10 a b
  rw [World.size_alloc] at hb
  exact ⟨base, by omega, hA.keep (Keep.setRow _ (by omega) _), hR.keep (Keep.setRow _ (by omega) _) (Keep.setRow _ (by omega) _)⟩

theorem NewP.six {w w1 : World} {sb so n cap T : Nat} {split : Bool} {z : Nat → Int} {e : Ending} (h : NewP w sb so n cap T split z e w1) : ∃ f s sh st ca cr, e = .returned (.agg #[f, s, sh, st, ca, cr]) ∧ Six f s sh st ca cr ∧ Below w.heap.size w w1 ∧ NewP w sb so n cap T split z (.returned (.agg #[f, s, sh, st, ca, cr])) w1 := by
  have h' := h
  obtain ⟨sh, q, S, cav, crv, rfl, _, _, _, _, _, _, _, h8, h9, h10⟩ := h
  refine ⟨_, _, _, _, _, _, rfl, ?_, h8, h'⟩
  by_cases hsp : split = false ∨ sh = 0
  · obtain ⟨rfl, rfl⟩ := h9 hsp
    exact ⟨rfl, rfl, rfl, rfl, rfl, rfl⟩
  · obtain ⟨base, _, hA, hR⟩ := h10 (by cases split <;> simp_all) (fun h => hsp (Or.inr h))
    exact ⟨rfl, rfl, rfl, rfl, ownsRow_one hA, crowdR_one hR⟩

theorem rowIs_sess {w : World} {sb t n : Nat} {z : Nat → Int} (h : w.rowIs sb t n (fun i => .int .i32 (z i))) : ∀ i, i < n → w.cell? ⟨sb, 0 + i, none⟩ = some (.int .i32 (z i)) := fun i hi => by
  rw [Nat.zero_add]; exact h.cell hi

/-- ZZNewIndex OF ASCENDING SESSIONS: as newIndex. -/
theorem zznew_pos (sb p T : Nat) (split : Bool) (z : Nat → Int) (w : World) (hn : p + 1 ≤ 65536) (hg : Good z (p + 1)) (hrow : w.rowIs sb 26 (p + 1) (fun i => .int .i32 (z i))) (hT : z p - z 0 = (T : Int)) :
    Calls Try.prog 8 #[.slice (some ⟨sb, 0, none⟩) (p + 1) (p + 1), .bool split] w (fun e w' => ∃ f s sh st ca cr, e = .returned (.agg #[f, s, sh, st, ca, cr]) ∧ Six f s sh st ca cr ∧ NewP w sb 0 (p + 1) (p + 1) T split z e w') := by
  refine (zznew_of (R := fun f s sh st ca cr w1 => NewP (w.alloc (.cells #[.int .i32 0, .slice none 0 0, .int .u64 0, .slice none 0 0, .slice none 0 0, .slice none 0 0] 32)) sb 0 (p + 1) (p + 1) T split z (.returned (.agg #[f, s, sh, st, ca, cr])) w1)
    ((new_pos sb 0 p (p + 1) T split z _ hn (Nat.le_refl _) (rowIs_sess (hrow.alloc _)) hg hT).mono (fun e w1 h => NewP.six h))).mono ?_
  rintro e w' ⟨f, s, sh, st, ca, cr, w1, rfl, six, hb, hR, rfl⟩
  exact ⟨f, s, sh, st, ca, cr, rfl, six, hR.up _⟩

/-- ZZNewIndex OF NO SESSIONS. -/
theorem zznew_zero (sb : Nat) (split : Bool) (w : World) :
    Calls Try.prog 8 #[.slice (some ⟨sb, 0, none⟩) 0 0, .bool split] w (fun e w' => ∃ S, e = .returned (.agg #[.int .i32 0, .slice (some ⟨sb, 0, none⟩) 0 0, .int .u64 0, .slice (some ⟨S, 0, none⟩) 1 1, .slice none 0 0, .slice none 0 0]) ∧
      w'.rowIs S 21 1 (fun _ => .int .i32 0) ∧ Below w.heap.size w w') := by
  refine (zznew_of (R := fun f s sh st ca cr w1 => ∃ S, w.heap.size + 1 ≤ S ∧ w1.rowIs S 21 1 (fun _ => .int .i32 0) ∧ f = .int .i32 0 ∧ s = .slice (some ⟨sb, 0, none⟩) 0 0 ∧ sh = .int .u64 0 ∧ st = .slice (some ⟨S, 0, none⟩) 1 1 ∧ ca = .slice none 0 0 ∧ cr = .slice none 0 0)
    ((new_zero sb 0 0 split _).mono ?_)).mono ?_
  · rintro e w1 ⟨S, rfl, hS, hr, hb⟩
    rw [World.size_alloc] at hS
    exact ⟨_, _, _, _, _, _, rfl, ⟨rfl, rfl, rfl, rfl, rfl, rfl⟩, hb, S, hS, hr, rfl, rfl, rfl, rfl, rfl, rfl⟩
  · rintro e w' ⟨f, s, sh, st, ca, cr, w1, rfl, six, hb, ⟨S, hS, hr, rfl, rfl, rfl, rfl, rfl, rfl⟩, rfl⟩
    exact ⟨S, rfl, hr.of_block (setRow_other _ _ _ _ (by omega)), below_setRow (((Below.refl _ _).alloc (Nat.le_refl _) _).trans (hb.mono (by omega))) (Nat.le_refl _) _⟩

/-- ZZNewIndex OF ASCENDING SESSIONS (or of none): an index value that answers rightly wherever it is laid. -/
theorem zznew_ok (sb n : Nat) (split : Bool) (z : Nat → Int) (w : World) (hn : n ≤ 65536) (hg : Good z n) (hrow : w.rowIs sb 26 n (fun i => .int .i32 (z i))) :
    Calls Try.prog 8 #[.slice (some ⟨sb, 0, none⟩) n n, .bool split] w (fun e w' => ∃ f s sh st ca cr, e = .returned (.agg #[f, s, sh, st, ca, cr]) ∧ Six f s sh st ca cr ∧ Below w.heap.size w w' ∧
      ∀ (w2 : World) (b : Nat), Below w'.heap.size w' w2 → XRow w2 b f s sh st ca cr → IdxOK w2 b 0 z n) := by
  cases n with
  | zero =>
    refine (zznew_zero sb split w).mono ?_
    rintro e w' ⟨S, rfl, hr, hb⟩
    refine ⟨_, _, _, _, _, _, rfl, ⟨rfl, rfl, rfl, rfl, rfl, rfl⟩, hb, fun w2 b hb2 hx => ?_⟩
    have hr0 : w2.cell? ⟨S, 0, none⟩ = some (.int .i32 0) := Below.some hb2 (hr.cell (i := 0) (by omega))
    refine ⟨0, sb, 0, 0, 0, S, 1, 1, none, 0, 0, none, 0, ⟨hx.cell 0, hx.cell 1, hx.cell 2, hx.cell 3, hx.cell 4, hx.cell 5, fun i hi => by omega, fun i hi => ?_⟩, fun _ _ _ => Or.inl rfl, hg.1, fun i hi => by omega, by omega, by omega, by omega, by omega, by omega, rfl, by omega, by omega⟩
    have : i = 0 := by omega
    subst this
    exact hr0
  | succ p =>
    obtain ⟨T, hT⟩ : ∃ T : Nat, z p - z 0 = (T : Int) := Int.eq_ofNat_of_zero_le (by have := hg.1.le (i := 0) (j := p) (by omega) (by omega); omega)
    refine (zznew_pos sb p T split z w hn hg hrow hT).mono ?_
    rintro e w' ⟨f, s, sh, st, ca, cr, rfl, six, hN⟩
    refine ⟨f, s, sh, st, ca, cr, rfl, six, ?_, fun w2 b hb2 hx => ?_⟩
    · obtain ⟨_, _, _, _, _, _, _, _, h8, _⟩ := hN.six
      exact h8
    · refine hN.ok (by omega) hn hg (rowIs_sess hrow) hb2 (b := b) ?_
      intro vs hvs j hj
      simp only [Ending.returned.injEq, Value.agg.injEq] at hvs
      subst hvs
      exact hx.cell j

set_option maxHeartbeats 1000000 in
theorem zzsearch_ok {w : World} {b : Nat} {z : Nat → Int} {n : Nat} (h : IdxOK w b 0 z n) (d : Int) (hd : -300000000 ≤ d) (hd' : d ≤ 300000000) :
    Calls Try.prog 10 #[.pointer (some ⟨b, 0, none⟩), .agg #[.int .i32 d]] w (CntP z n d w) := by
  have H := hide (h.below ((Below.refl w.heap.size w).alloc (Nat.le_refl _) (.cells #[.int .i32 d] 26)))
  clear h
  go_enter Try.func10, Try.ntmps10
  go_wp2_with (go_at_call 22; refine (H.out.search d hd hd').mono ?_; rintro e w' ⟨rfl, hb'⟩)
  go_ret
  exact ⟨rfl, ((Below.refl _ _).alloc (Nat.le_refl _) _).trans (hb'.mono (by simp))⟩

set_option maxHeartbeats 1000000 in
theorem zzbefore_ok {w : World} {b : Nat} {z : Nat → Int} {n : Nat} (h : IdxOK w b 0 z n) (d : Int) (hd : -300000000 ≤ d) (hd' : d ≤ 300000000) :
    Calls Try.prog 14 #[.pointer (some ⟨b, 0, none⟩), .agg #[.int .i32 d]] w (CntP z n d w) := by
  have H := hide (h.below ((Below.refl w.heap.size w).alloc (Nat.le_refl _) (.cells #[.int .i32 d] 26)))
  clear h
  go_enter Try.func14, Try.ntmps14
  go_wp2_with (go_at_call 23; refine (H.out.before d hd hd').mono ?_; rintro e w' ⟨rfl, hb'⟩)
  go_ret
  exact ⟨rfl, ((Below.refl _ _).alloc (Nat.le_refl _) _).trans (hb'.mono (by simp))⟩
end Go.Proofs.Qxb6001336a
