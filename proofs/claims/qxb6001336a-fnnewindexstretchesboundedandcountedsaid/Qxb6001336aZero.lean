import Derived.Test.Qxb6001336aIdx
namespace Go.Proofs.Qxb6001336a
open Go.RowKit

/-- newIndex of no sessions. -/
def NewZ (w : World) (sb so cap : Nat) (e : Ending) (w' : World) : Prop :=
  ∃ S, e = .returned (.agg #[.int .i32 0, .slice (some ⟨sb, so, none⟩) 0 cap, .int .u64 0, .slice (some ⟨S, 0, none⟩) 1 1, .slice none 0 0, .slice none 0 0]) ∧ w.heap.size ≤ S ∧ w'.rowIs S 21 1 (fun _ => .int .i32 0) ∧ Below w.heap.size w w'

set_option maxRecDepth 100000 in
set_option maxHeartbeats 2000000 in
theorem new_zero (sb so cap : Nat) (split : Bool) (w : World) : Calls Try.prog 21 #[.slice (some ⟨sb, so, none⟩) 0 cap, .bool split] w (NewZ w sb so cap) := by
  go_enter Try.func21, Try.ntmps21
  go_upto_region 3 with (fail)
  have HR := ((XRow.new w (.int .i32 0) (.slice none 0 0) (.int .u64 0) (.slice none 0 0) (.slice none 0 0) (.slice none 0 0)).alloc (Obj.cells #[Value.int IntKind.i32 0] 21)).alloc (.cells #[.int .i32 0, .slice (some ⟨sb, so, none⟩) 0 cap, .int .u64 0, .slice (some ⟨w.heap.size + 1, 0, none⟩) 1 1, .slice none 0 0, .slice none 0 0] 32)
  have HX := XRow.new ((w.alloc (Obj.cells #[Value.int IntKind.i32 0, Value.slice none 0 0, Value.int IntKind.u64 0, Value.slice none 0 0, Value.slice none 0 0, Value.slice none 0 0] 32)).alloc (Obj.cells #[Value.int IntKind.i32 0] 21)) (.int .i32 0) (.slice (some ⟨sb, so, none⟩) 0 cap) (.int .u64 0) (.slice (some ⟨w.heap.size + 1, 0, none⟩) 1 1) (.slice none 0 0) (.slice none 0 0)
  rw [show ((w.alloc (Obj.cells #[Value.int IntKind.i32 0, Value.slice none 0 0, Value.int IntKind.u64 0, Value.slice none 0 0, Value.slice none 0 0, Value.slice none 0 0] 32)).alloc (Obj.cells #[Value.int IntKind.i32 0] 21)).heap.size = w.heap.size + 1 + 1 from by simp] at HX
  have Hst := ((World.rowIs_alloc (w.alloc (Obj.cells #[Value.int IntKind.i32 0, Value.slice none 0 0, Value.int IntKind.u64 0, Value.slice none 0 0, Value.slice none 0 0, Value.slice none 0 0] 32)) #[.int .i32 0] 21 (fun _ => .int .i32 0) (fun i hi => by simp at hi; simp [hi])).alloc (.cells #[.int .i32 0, .slice (some ⟨sb, so, none⟩) 0 cap, .int .u64 0, .slice (some ⟨w.heap.size + 1, 0, none⟩) 1 1, .slice none 0 0, .slice none 0 0] 32))
  rw [show (w.alloc (Obj.cells #[Value.int IntKind.i32 0, Value.slice none 0 0, Value.int IntKind.u64 0, Value.slice none 0 0, Value.slice none 0 0, Value.slice none 0 0] 32)).heap.size = w.heap.size + 1 from by simp] at Hst
  refine wp_copyx HX HR rfl rfl rfl rfl rfl rfl rfl rfl (by decide) (by simp) ?_
  intro a' e4 hd
  go_wp2
  refine bodyPost_x HR e4 hd ?_
  exact ⟨w.heap.size + 1, rfl, by omega, Hst.of_block (setRow_other _ _ _ _ (by omega)), below_setRow (by go_grown) (Nat.le_refl _) _⟩
end Go.Proofs.Qxb6001336a
