import Derived.Test.Qxb6002380aBig
namespace Go.Proofs.Qxb6002380a
open Go.RowKit

theorem info58 : (Try.prog.info? 58).map (fun i => (i.zero, i.size, i.bytes)) = some (some (.int .u64 0), 1, 8) := by kernel_rfl

set_option maxRecDepth 100000 in
/-- nat.make(1) of nothing. -/
theorem make58 (w : World) : Calls Try.prog 58 #[.slice none 0 0, .int .i64 1] w fun e w' => e = .returned (.slice (some ⟨w.heap.size, 0, none⟩) 1 1) ∧ w' = w.alloc (.cells #[.int .u64 0] 58 (0, 0)) := by
  have hmc : madeCells #[.int .u64 0] 1 = #[.int .u64 0] := by simp [madeCells]; exact ⟨0, rfl, rfl⟩
  have hmk : (Instr.makeSlice 62 (.int .i64 1) (.int .i64 1)).run Try.prog w = .ok (.slice (some ⟨w.heap.size, 0, none⟩) 1 1) (w.alloc (.cells #[.int .u64 0] 58 (0, 0))) := by
    have h := run_make_row' 62 58 (.int .u64 0) 8 Try.underlying62 info58 rfl .i64 .i64 1 (by omega) (by omega) w
    rw [hmc] at h
    exact h
  clear hmc
  go_enter Try.func58, Try.ntmps58
  go_wp2
  go_ret
  exact ⟨rfl, rfl⟩

set_option maxRecDepth 100000 in
theorem word57_zero (w : World) : Calls Try.prog 57 #[.slice none 0 0, .int .u64 0] w fun e w' => e = .returned (.slice none 0 0) ∧ w' = w := by
  go_enter Try.func57, Try.ntmps57
  go_wp2
  go_ret
  exact ⟨rfl, rfl⟩

set_option maxRecDepth 100000 in
theorem word57 (x : Nat) (hx : 0 < x) (w : World) : Calls Try.prog 57 #[.slice none 0 0, .int .u64 x] w fun e w' => e = .returned (.slice (some ⟨w.heap.size, 0, none⟩) 1 1) ∧ w' = w.alloc (.cells #[.int .u64 x] 58 (0, 0)) := by
  have h1 : ((x : Int) == 0) = false := by rw [beq_eq_false_iff_ne]; omega
  go_enter Try.func57, Try.ntmps57
  go_wp2_with (go_at_call 58; refine (make58 _).mono ?_; rintro e w' ⟨rfl, rfl⟩)
  go_ret
  exact ⟨rfl, rfl⟩

/-- How many words SetUint64 leaves. -/
def setN (x : Nat) : Nat := if x = 0 then 0 else 1

set_option maxRecDepth 100000 in
theorem set49 (x : Nat) (hx : x < 18446744073709551616) (w : World) : Calls Try.prog 49 #[.slice none 0 0, .int .u64 x] w fun e w' =>
    (x = 0 ∧ e = .returned (.slice none 0 0) ∧ w' = w) ∨ (0 < x ∧ e = .returned (.slice (some ⟨w.heap.size, 0, none⟩) 1 1) ∧ w' = w.alloc (.cells #[.int .u64 x] 58 (0, 0))) := by
  rcases Nat.eq_zero_or_pos x with h0 | h0
  · subst h0
    clear hx
    go_enter Try.func49, Try.ntmps49
    go_wp2_with (go_at_call 57; refine (word57_zero _).mono ?_; rintro e w' ⟨rfl, hw⟩; have hw := hw.symm; subst hw)
    go_ret
    exact Or.inl ⟨by trivial, rfl, rfl⟩
  · go_enter Try.func49, Try.ntmps49
    go_wp2_with (go_at_call 57; refine (word57 x h0 _).mono ?_; rintro e w' ⟨rfl, rfl⟩)
    go_ret
    exact Or.inr ⟨h0, rfl, rfl⟩

/-- A world that has grown by Int's block b set to x. -/
def SetP (b x : Nat) (w : World) (e : Ending) (w' : World) : Prop :=
  e = .returned (.pointer (some ⟨b, 0, none⟩)) ∧ (∃ a, IntIs w' b a (setN x) (setN x) (fun _ => x)) ∧ Below b w w'

set_option maxRecDepth 100000 in
/-- Int.SetUint64 on a new Int. -/
theorem set34 (b x : Nat) (hx : x < 18446744073709551616) (w : World) (hb : w.heap[b]? = some (.cells #[.bool false, .slice none 0 0] 64 (0, 0))) : Calls Try.prog 34 #[.pointer (some ⟨b, 0, none⟩), .int .u64 x] w (SetP b x w) := by
  have hlt : b < w.heap.size := (Array.getElem?_eq_some_iff.1 hb).1
  have c0 : w.cell? ⟨b, 0, none⟩ = some (.bool false) := by rw [cell_of_row w b 0 _ _ _ hb]; rfl
  have c1 : w.cell? ⟨b, 1, none⟩ = some (.slice none 0 0) := by rw [cell_of_row w b 1 _ _ _ hb]; rfl
  have f0 : w.frozen? ⟨b, 0, none⟩ = false := frozen_of_row w b 0 _ _ hb
  have f1 : w.frozen? ⟨b, 1, none⟩ = false := frozen_of_row w b 1 _ _ hb
  have Hb := hide hb
  clear hb
  go_enter Try.func34, Try.ntmps34
  go_wp2_with fail
  refine (set49 x hx w).mono ?_
  rintro e w' (⟨h0, rfl, hw⟩ | ⟨h0, rfl, hw⟩)
  · have hw := hw.symm
    subst hw
    have Hh0 := hide h0
    clear h0
    go_wp2
    go_ret
    refine ⟨rfl, ⟨none, ?_, ?_⟩, ?_⟩
    · rw [heap_setCell_same _ b 0 _ 64 _ (heap_setCell_same w b 1 _ 64 _ Hb.out)]
      simp [setN, Hh0.out]
    · left; simp [setN, Hh0.out]
    · exact ((Below.refl b w).setCell (p := ⟨b, 1, none⟩) (Nat.le_refl b) _).setCell (p := ⟨b, 0, none⟩) (Nat.le_refl b) _
  · subst hw
    have Hh0 := hide h0
    clear h0
    go_wp2
    go_ret
    obtain ⟨w2, hw2⟩ : ∃ w2, w2 = (w.setCell ⟨b, 1, none⟩ (.slice (some ⟨w.heap.size, 0, none⟩) 1 1)).setCell ⟨b, 0, none⟩ (.bool false) := ⟨_, rfl⟩
    rw [← hw2]
    have hs : w2.heap.size = w.heap.size := by rw [hw2]; simp
    have h2 : w2.heap[b]? = some (.cells #[.bool false, .slice (some ⟨w.heap.size, 0, none⟩) 1 1] 64 (0, 0)) := by
      rw [hw2, heap_setCell_same _ b 0 _ 64 _ (heap_setCell_same w b 1 _ 64 _ Hb.out)]; rfl
    have hb2 : Below b w w2 := by rw [hw2]; exact ((Below.refl b w).setCell (p := ⟨b, 1, none⟩) (Nat.le_refl b) _).setCell (p := ⟨b, 0, none⟩) (Nat.le_refl b) _
    have e1 : setN x = 1 := by have := Hh0.out; simp [setN]; omega
    refine ⟨rfl, ⟨some ⟨w.heap.size, 0, none⟩, ?_, ?_⟩, hb2.alloc (by omega) _⟩
    · rw [e1, Below.heap_alloc w2 _ b (by omega)]; exact h2
    · right
      refine ⟨w.heap.size, 0, rfl, fun i hi => ?_⟩
      rw [e1] at hi
      have e0 : i = 0 := by omega
      subst e0
      have h3 := heap_alloc_new w2 (.cells #[.int .u64 (x : Nat)] 58 (0, 0))
      rw [hs] at h3
      rw [cell_of_row _ w.heap.size _ _ _ _ h3]
      rfl
end Go.Proofs.Qxb6002380a
