import Derived.Test.Qxb6002380aKit
import Derived.Lib.LazyBuf
namespace Go.Proofs.Qxb6002380a
open Go.RowKit
theorem Try.info35 : (Try.prog.info? 35).map (fun i => (i.zero, i.size, i.bytes)) = some (some (.int .u64 0), 1, 8) := by kernel_rfl
theorem Try.info58 : (Try.prog.info? 58).map (fun i => (i.zero, i.size, i.bytes)) = some (some (.int .u64 0), 1, 8) := by kernel_rfl

set_option maxHeartbeats 400000 in
theorem bytes16 (a : Option Addr) (n cap : Nat) (s d : Int) (w : World) (hn : n ≤ maxLen) :
    Calls Try.prog 16 #[.slice a n cap, .int .u64 s, .int .i64 d] w fun e w' => e = .returned (.bool (decide (n ≤ 1048576))) ∧ w' = w := by
  unfold maxLen at hn
  by_cases h : n ≤ 1048576
  · go_enter Try.func16, Try.ntmps16
    go_wp2
    go_ret
    exact ⟨by simp [h], rfl⟩
  · go_enter Try.func16, Try.ntmps16
    go_wp2
    go_ret
    exact ⟨by simp [h], rfl⟩

set_option maxRecDepth 100000 in
set_option maxHeartbeats 1000000 in
/-- zzCloneUints of a slice that is not empty. -/
theorem clone_any (b off n cap : Nat) (z : Nat → Int) (w : World) (hlt : b < w.heap.size) (hc : ∀ i, i < n → w.cell? ⟨b, off + i, none⟩ = some (.int .u64 (z i))) (hn : n ≤ 4096) :
    Calls Try.prog 17 #[.slice (some ⟨b, off, none⟩) n cap] w fun e w' => ∃ g, e = .returned (.slice (some ⟨g, 0, none⟩) n n) ∧ w.heap.size ≤ g ∧ w'.rowIs g 35 n (fun i => .int .u64 (z i)) ∧ Below w.heap.size w w' := by
  have hmk := run_make_row' 34 35 (.int .u64 0) 8 Try.underlying34 Try.info35 rfl .i64 .i64 n (by omega) (by omega)
  have hnil : ∀ w, (binOp .eql 34 (.slice (some ⟨b, off, none⟩) n cap) (.slice none 0 0)).run Try.prog w = .ok (.bool false) w := fun w => run_eql_slice_nil (P := Try.prog) w 34 35 (some ⟨b, off, none⟩) n cap Try.underlying34
  go_enter Try.func17, Try.ntmps17
  go_wp2
  go_loopw [4] (fun i wr => ∃ k : Nat, k ≤ n ∧ i = .int .i64 k ∧ w.heap.size < wr.heap.size ∧ wr.rowIs w.heap.size 35 n (fun i => .int .u64 (if i < k then z i else 0)) ∧ Below w.heap.size w wr) (fun i _ => n - (intOf i).toNat)
  case atStart => exact ⟨0, Nat.zero_le _, rfl, by simp, (World.rowIs_made w _ n 35).congr (fun i hi => by simp), (Below.refl _ _).alloc (Nat.le_refl _) _⟩
  case round =>
    obtain ⟨k, hk, rfl, hsz, hrow, hbel⟩ := hrel
    by_cases hkn : k < n
    · have hck : wr.cell? ⟨b, off + k, none⟩ = some (.int .u64 (z k)) := (hbel.cell hlt).trans (hc k hkn)
      have hcs := hrow.cell hkn
      have hfz := hrow.frozen k
      go_wp2
      go_roundw
      case rel =>
        refine ⟨k + 1, by omega, by go_num, by simp; omega, (hrow.set k _).congr (fun i hi => ?_), hbel.setCell (Nat.le_refl _) _⟩
        by_cases e : i = k
        · subst e; simp
        · simp only [e, if_false]
          by_cases h : i < k
          · rw [if_pos h, if_pos (by omega)]
          · rw [if_neg h, if_neg (by omega)]
      case measure => simp [intOf]; omega
    · have e : k = n := by omega
      subst e
      go_wp2
      go_ret
      exact ⟨_, rfl, Nat.le_refl _, hrow.congr (fun i hi => by simp [hi]), hbel⟩
end Go.Proofs.Qxb6002380a
