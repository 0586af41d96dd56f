import Derived.Test.Qxb6002380aKit
import Derived.Test.Qxb6002380aLenPlain
import Derived.Lib.LazyBuf
import Derived.Deep.AppendLies
import Derived.Deep.RegionLaw
namespace Go.Proofs.Qxb6002380a
open Go.RowKit
theorem Try.info5 : (Try.prog.info? 5).map (fun i => (i.zero, i.size, i.bytes)) = some (some (.int .u8 0), 1, 1) := by kernel_rfl

set_option maxHeartbeats 400000 in
theorem bytes13 (a : Option Addr) (n cap : Nat) (d : Int) (w : World) (hn : n ≤ maxLen) :
    Calls Try.prog 13 #[.slice a n cap, .int .i64 d] w fun e w' => e = .returned (.bool (decide (n ≤ 1048576))) ∧ w' = w := by
  unfold maxLen at hn
  by_cases h : n ≤ 1048576
  · go_enter Try.func13, Try.ntmps13
    go_wp2
    go_ret
    exact ⟨by simp [h], rfl⟩
  · go_enter Try.func13, Try.ntmps13
    go_wp2
    go_ret
    exact ⟨by simp [h], rfl⟩

/-- What zzCloneBytes hands back: nil, or a row of its own; the bytes z. -/
def CloneP (n : Nat) (z : Nat → Int) (w : World) (e : Ending) (w' : World) : Prop :=
  ∃ v, e = .returned v ∧ Below w.heap.size w w' ∧ ((v = .slice none 0 0 ∧ n = 0) ∨ ∃ g, v = .slice (some ⟨g, 0, none⟩) n n ∧ w.heap.size ≤ g ∧ w'.rowIs g 5 n (fun i => .int .u8 (z i)))

set_option maxRecDepth 100000 in
set_option maxHeartbeats 1000000 in
theorem clone_some (x : Addr) (n cap : Nat) (z : Nat → Int) (w : World) (hn : n ≤ 1048576) (hr : Row .u8 w (some x) n z) : Calls Try.prog 10 #[.slice (some x) n cap] w (CloneP n z w) := by
  have hmk := run_make_row' 22 5 (.int .u8 0) 1 Try.underlying22 Try.info5 rfl .i64 .i64 n (by omega) (by omega)
  have hnil : ∀ w, (binOp .eql 22 (.slice (some x) n cap) (.slice none 0 0)).run Try.prog w = .ok (.bool false) w := fun w => run_eql_slice_nil (P := Try.prog) w 22 5 (some x) n cap Try.underlying22
  have HR := hide hr
  clear hr
  go_enter Try.func10, Try.ntmps10
  go_wp2
  go_loopw [4] (fun i wr => ∃ k : Nat, k ≤ n ∧ i = .int .i64 k ∧ w.heap.size < wr.heap.size ∧ wr.rowIs w.heap.size 5 n (fun i => .int .u8 (if i < k then z i else 0)) ∧ Below w.heap.size w wr) (fun i _ => n - (intOf i).toNat)
  case atStart => exact ⟨0, Nat.zero_le _, rfl, by simp, (World.rowIs_made w _ n 5).congr (fun i hi => by simp), (Below.refl _ _).alloc (Nat.le_refl _) _⟩
  case round =>
    obtain ⟨k, hk, rfl, hsz, hrow, hbel⟩ := hrel
    by_cases hkn : k < n
    · rcases HR.out with h0 | ⟨b, off, hx, hlt, hc⟩
      · omega
      · simp only [Option.some.injEq] at hx
        subst hx
        have hck : wr.cell? ⟨b, off + k, none⟩ = some (.int .u8 (z k)) := (hbel.cell hlt).trans (hc k hkn)
        have hcs := hrow.cell hkn
        have hfz := hrow.frozen k
        clear hc
        go_wp2
        go_roundw
        case rel =>
          refine ⟨k + 1, by omega, by go_num, by simp; omega, (hrow.set k _).congr (fun i hi => ?_), hbel.setCell (Nat.le_refl _) _⟩
          by_cases e : i = k
          · subst e; simp
          · simp only [e, if_false]
            by_cases h : i < k
            · rw [if_pos h, if_pos (by omega)]
            · rw [if_neg h, if_neg (by omega)]
        case measure => simp [intOf]; omega
    · have e : k = n := by omega
      subst e
      go_wp2
      go_ret
      exact ⟨_, rfl, hbel, Or.inr ⟨_, rfl, Nat.le_refl _, hrow.congr (fun i hi => by simp [hi])⟩⟩

set_option maxHeartbeats 400000 in
theorem clone_none (z : Nat → Int) (w : World) : Calls Try.prog 10 #[.slice none 0 0] w (CloneP 0 z w) := by
  have hnil : ∀ w, (binOp .eql 22 (.slice none 0 0) (.slice none 0 0)).run Try.prog w = .ok (.bool true) w := fun w => run_eql_slice_nil (P := Try.prog) w 22 5 none 0 0 Try.underlying22
  go_enter Try.func10, Try.ntmps10
  go_wp2
  go_ret
  exact ⟨_, rfl, Below.refl _ _, Or.inl ⟨rfl, rfl⟩⟩
end Go.Proofs.Qxb6002380a
