import Derived.Test.Qxb6001336aStr2
namespace Go.Proofs.Qxb6001336a
open Go.RowKit

set_option maxRecDepth 100000 in
set_option maxHeartbeats 4000000 in
/-- The guards, and no days at all. -/
theorem law5_out (a : Option Addr) (n cap : Nat) (split : Bool) (w : World) (hn : n ≤ maxLen) (h : n = 0 ∨ 65536 < n) :
    Calls Try.prog 5 #[.slice a n cap, .bool split] w fun e w' => e = .returned (.bool true) ∧ Below w.heap.size w w' := by
  have hnm := hn
  unfold maxLen at hn
  rcases h with rfl | h
  · have hnn : ((0 : Int) != 0) = false := by simp
    go_enter Try.func5, Try.ntmps5
    go_upto_region 7 with (first | (go_at_call 15; refine (bytes15 _ _ _ _ _ hnm).mono ?_; rintro e w1 ⟨rfl, hw1⟩; have hw2 := hw1.symm; clear hw1; subst hw2) | (go_at_call 7; refine (asc_any _ _ _ (fun _ => 0) _ (Or.inl rfl) (by omega)).mono ?_; rintro e w' ⟨r, rfl, hgood, qa, rfl⟩; clear hgood; cases r))
    · go_ret
      exact ⟨rfl, below_drewN (Below.refl _ _) _⟩
    · go_cut [5] (fun s5 wr => ∃ X S sv, s5 = .pointer (some ⟨X, 0, none⟩) ∧ XRow wr X (.int .i32 0) sv (.int .u64 0) (.slice (some ⟨S, 0, none⟩) 1 1) (.slice none 0 0) (.slice none 0 0) ∧ wr.rowIs S 21 1 (fun _ => .int .i32 0) ∧ Below w.heap.size w wr)
      case first =>
        go_wp2_with (first
          | (go_at_call 9; refine (dates_any _ _ _ (fun _ => 0) _ (Or.inl rfl) (by omega)).mono ?_; rintro e w2 ⟨sb, rfl, hsb, hrow, hb2⟩; have HB2 := hide hb2; clear hrow hb2)
          | (go_at_call 8; refine (zznew_zero sb split _).mono ?_; rintro e w3 ⟨S, rfl, hr, hb3⟩; have Hr := hide hr; have HB3 := hide hb3; clear hr hb3)
          | ((with_reducible show wpList _ _ _ _ _ _); refine wpList_store_row rfl 32 (.tmp 5) (.tmp 30) rfl w3.heap.size #[.int .i32 0, .slice (some ⟨sb, 0, none⟩) 0 0, .int .u64 0, .slice (some ⟨S, 0, none⟩) 1 1, .slice none 0 0, .slice none 0 0] rfl rfl 32 _ (XRow.new w3 _ _ _ _ _ _) Try.size32 rfl (one6 rfl rfl rfl rfl rfl rfl) ?_))
        go_meet
        case rel =>
          have hbb : Below w3.heap.size w3 ((w3.alloc (.cells #[.int .i32 0, .slice none 0 0, .int .u64 0, .slice none 0 0, .slice none 0 0, .slice none 0 0] 32)).setRow w3.heap.size #[.int .i32 0, .slice (some ⟨sb, 0, none⟩) 0 0, .int .u64 0, .slice (some ⟨S, 0, none⟩) 1 1, .slice none 0 0, .slice none 0 0]) := below_setRow ((Below.refl _ _).alloc (Nat.le_refl _) _) (Nat.le_refl _) _
          refine ⟨w3.heap.size, S, _, rfl, setRow_heap _ _ _ _ _ _ (XRow.new w3 _ _ _ _ _ _), Hr.out.of_block (hbb.block _ Hr.out.lt), ?_⟩
          have b1 := (below_drewN (Below.refl w.heap.size w) qa).trans HB2.out
          have b2 := b1.trans (HB3.out.mono b1.size)
          exact b2.trans (hbb.mono b2.size)
      case rest =>
        obtain ⟨X, S, sv, rfl, hx, hr, hbel⟩ := hcut
        have c0 : wc.cell? ⟨S, 0, none⟩ = some (.int .i32 0) := hr.cell (i := 0) (by omega)
        have Hx := hide hx
        clear hx hr
        go_wp2_with (first | (go_at_call 16; refine (acc16 Hx.out).mono ?_; rintro e w2 ⟨rfl, hw2⟩; have hw3 := hw2.symm; clear hw2; subst hw3) | (go_at_call 17; refine (acc17 Hx.out).mono ?_; rintro e w2 ⟨rfl, hw2⟩; have hw3 := hw2.symm; clear hw2; subst hw3) | (go_at_call 18; refine (acc18 Hx.out).mono ?_; rintro e w2 ⟨rfl, hw2⟩; have hw3 := hw2.symm; clear hw2; subst hw3))
        go_loop [10] (fun i => i = .int .i64 1) (fun _ => 0)
        case atStart => exact rfl
        case round =>
          obtain rfl := hrel
          go_wp2
          go_ret
          exact ⟨rfl, hbel⟩
  · by_cases h20 : n ≤ 1048576
    · have h65 : (65536 : Int) < (n : Int) := by omega
      go_enter Try.func5, Try.ntmps5
      go_wp2_with (go_at_call 15; refine (bytes15 _ _ _ _ _ hnm).mono ?_; rintro e w1 ⟨rfl, hw1⟩; have hw2 := hw1.symm; clear hw1; subst hw2)
      go_ret
      exact ⟨rfl, Below.refl _ _⟩
    · go_enter Try.func5, Try.ntmps5
      go_wp2_with (go_at_call 15; refine (bytes15 _ _ _ _ _ hnm).mono ?_; rintro e w1 ⟨rfl, hw1⟩; have hw2 := hw1.symm; clear hw1; subst hw2)
      go_ret
      exact ⟨rfl, Below.refl _ _⟩
end Go.Proofs.Qxb6001336a
