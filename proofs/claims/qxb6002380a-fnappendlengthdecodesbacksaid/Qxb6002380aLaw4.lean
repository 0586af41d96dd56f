import Derived.Test.Qxb6002380aLen4
namespace Go.Proofs.Qxb6002380a
open Go.RowKit

/-- The bytes that came in, told so that either clone is at hand. -/
def InP (w : World) (a : Option Addr) (n cap : Nat) (z : Nat → Int) : Prop := (a = none ∧ n = 0 ∧ cap = 0) ∨ ∃ x, a = some x ∧ Row .u8 w (some x) n z

theorem InP.below {w w' : World} {a : Option Addr} {n cap : Nat} {z : Nat → Int} (h : InP w a n cap z) (hb : Below w.heap.size w w') : InP w' a n cap z := by
  rcases h with h | ⟨x, h, hr⟩
  · exact Or.inl h
  · exact Or.inr ⟨x, h, hr.below hb⟩

theorem clone_any (a : Option Addr) (n cap : Nat) (z : Nat → Int) (w : World) (hn : n ≤ 1048576) (h : InP w a n cap z) : Calls Try.prog 10 #[.slice a n cap] w (CloneP n z w) := by
  rcases h with ⟨rfl, rfl, rfl⟩ | ⟨x, rfl, hr⟩
  · exact clone_none z w
  · exact clone_some x n cap z w hn hr

set_option maxRecDepth 100000 in
set_option maxHeartbeats 4000000 in
theorem law4 (a : Option Addr) (n cap N : Nat) (z : Nat → Int) (w : World) (hn : n ≤ 1048576) (hN : N < 9223372036854775808) (h : InP w a n cap z) (hz : ∀ i, i < n → 0 ≤ z i ∧ z i < 256) :
    Calls Try.prog 4 #[.slice a n cap, .int .i64 N] w fun e w' => e = .returned (.bool true) ∧ Below w.heap.size w w' := by
  have Hin := hide h
  have Hz := hide hz
  clear h hz
  have hL : 0 < (encLen N).length := by unfold encLen; split <;> simp
  have hL9 := encLen_length N
  go_enter Try.func4, Try.ntmps4
  go_wp2_with (first
    | (go_at_call 13; refine (bytes13 _ _ _ _ _ (by unfold maxLen; omega)).mono ?_; rintro e w1 ⟨rfl, hw1⟩; have hw1 := hw1.symm; subst hw1)
    | (go_at_call 10; refine (clone_any _ n cap z w hn Hin.out).mono ?_; rintro e w1 ⟨v1, rfl, hb1, hc1⟩; obtain ⟨a1, rfl, hr1⟩ := clone_slice hc1; have Hb1 := hide hb1; have Hr1 := hide hr1; clear hb1 hc1 hr1)
    | (go_at_call 10; refine (clone_any _ n cap z w1 hn (Hin.out.below Hb1.out)).mono ?_; rintro e w2 ⟨v2, rfl, hb2, hc2⟩; have Hc2 := hide (clone_owns hn hc2); have Hb2 := hide hb2; clear hb2 hc2)
    | (go_at_call 14; refine (zzlen v2 n N w1.heap.size _ w2 Hc2.out hn Hb2.out.size hN).mono ?_; rintro e w3 ⟨v3, rfl, ho3, hb3⟩; obtain ⟨g, cap3, rfl, hle3, hcap3, hcz, hce⟩ := out_cells ho3; have Hcz := hide hcz; have Hce := hide hce; have Hb3 := hide (Hb2.out.trans hb3); clear ho3 hb3 hcz hce Hb2 Hc2))
  clear Hin hw1
  have hcap4 : cap3 ≤ 9223372036854775807 := by unfold maxLen at hcap3; omega
  clear hcap3
  have hgl : g < w3.heap.size := World.block_lt_of_cell? w3 _ (Hce.out 0 hL)
  go_loopw [7] (fun i wr => ∃ k : Nat, k ≤ n ∧ i = .int .i64 k ∧ Below w3.heap.size w3 wr) (fun i _ => n - (intOf i).toNat)
  case atStart => exact ⟨0, Nat.zero_le _, rfl, Below.refl _ _⟩
  case round =>
    obtain ⟨k, hk, rfl, hbel⟩ := hrel
    have hb1r : Below w1.heap.size w1 wr := Hb3.out.trans (hbel.mono Hb3.out.size)
    by_cases hkn : k < n
    · rcases Hr1.out with h0 | ⟨b, off, hx, hlt, hc⟩
      · omega
      · subst hx
        have hck : wr.cell? ⟨b, off + k, none⟩ = some (.int .u8 (z k)) := (hb1r.cell hlt).trans (hc k hkn)
        have hcg : wr.cell? ⟨g, k, none⟩ = some (.int .u8 (z k)) := (hbel.cell hgl).trans (Hcz.out k hkn)
        clear hc
        obtain ⟨hz1, hz2⟩ := Hz.out k hkn
        have Hbel := hide hbel
        clear hbel hb1r
        go_wp2
        go_quiet (fail)
        go_wp2
        go_roundw
        case rel => exact ⟨k + 1, by omega, by go_num, below_drewN Hbel.out _⟩
        case measure => simp [intOf]; omega
    · have e : k = n := by omega
      subst e
      have hce : ∀ i, i < (encLen N).length → wr.cell? ⟨g, k + i, none⟩ = some (.int .u8 (((encLen N).getD i 0 : Nat) : Int)) := fun i hi => (hbel.cell hgl).trans (Hce.out i hi)
      have hdec := dec_any g k (cap3 - k) N wr hN hce
      have Hb := hide (Hb1.out.trans (hb1r.mono Hb1.out.size))
      clear hce hbel hb1r Hce Hcz
      generalize (encLen N).length = L at *
      have Hdec := hide hdec
      clear hdec
      have hLI : ((k : Int) + (L : Int) - k) = L := by omega
      have hLL : ((L : Int) != (L : Int)) = false := by simp
      have hNN : ((N : Int) == (N : Int)) = true := by simp
      go_wp2_with fail
      refine Hdec.out.mono ?_
      rintro e w4 ⟨rfl, hw4⟩
      have hw4 := hw4.symm
      subst hw4
      go_wp2
      go_ret
      exact ⟨rfl, Hb.out⟩

set_option maxRecDepth 100000 in
set_option maxHeartbeats 1000000 in
theorem law4_out (a : Option Addr) (n cap : Nat) (d : Int) (w : World) (hm : n ≤ maxLen) (h : ¬ (n ≤ 1048576 ∧ 0 ≤ d)) :
    Calls Try.prog 4 #[.slice a n cap, .int .i64 d] w fun e w' => e = .returned (.bool true) ∧ Below w.heap.size w w' := by
  by_cases hn : n ≤ 1048576
  · have hd : d < 0 := by omega
    clear h
    go_enter Try.func4, Try.ntmps4
    go_wp2_with (go_at_call 13; refine (bytes13 _ _ _ _ _ hm).mono ?_; rintro e w1 ⟨rfl, hw1⟩; have hw1 := hw1.symm; subst hw1)
    go_ret
    exact ⟨rfl, Below.refl _ _⟩
  · clear h
    go_enter Try.func4, Try.ntmps4
    go_wp2_with (go_at_call 13; refine (bytes13 _ _ _ _ _ hm).mono ?_; rintro e w1 ⟨rfl, hw1⟩; have hw1 := hw1.symm; subst hw1)
    go_ret
    exact ⟨rfl, Below.refl _ _⟩
end Go.Proofs.Qxb6002380a
