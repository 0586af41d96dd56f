import Derived.Test.Qxb6002380aBits2
import Derived.Laws.Rows
import Derived.Laws.Tables
import Derived.Laws.CopyRow
namespace Go.Proofs.Qxb6002380a
open Go.RowKit

/-- A row with cells laid over it from a place on. -/
def splice (cur : Array Value) (o : Nat) (vs : List Value) : Array Value := (cur.toList.take o ++ vs ++ cur.toList.drop (o + vs.length)).toArray

theorem splice_size (cur : Array Value) (o : Nat) (vs : List Value) (h : o + vs.length ≤ cur.size) : (splice cur o vs).size = cur.size := by
  simp [splice]; omega

theorem splice_get (cur : Array Value) (o : Nat) (vs : List Value) (h : o + vs.length ≤ cur.size) (j : Nat) : (splice cur o vs)[j]? = if o ≤ j ∧ j < o + vs.length then vs[j - o]? else cur[j]? := by
  unfold splice
  rw [List.getElem?_toArray]
  simp only [List.getElem?_append, List.length_take, Array.length_toList, List.length_append, List.getElem?_take, List.getElem?_drop]
  have m0 : min o cur.size = o := by omega
  rw [m0]
  by_cases hk : j < o
  · simp [hk, show j < o + vs.length by omega, show ¬ o ≤ j by omega]
  · by_cases h3 : j < o + vs.length
    · simp [hk, h3, show o ≤ j by omega]
    · simp [h3, show o + vs.length + (j - (o + vs.length)) = j by omega]

section
variable {P : Program}
theorem run_storeVar_at (w : World) (g o : Nat) (t ty : TypeId) (old cells : Array Value) (hg : w.heap[g]? = some (.cells old t (0, 0))) (hi : (P.info? ty).map (·.size) = some cells.size)
    (ho : o + cells.size ≤ old.size) (h1 : cells.all (·.oneCell') = true) :
    (storeVar ty ⟨g, o, none⟩ (.agg cells)).run P w = .ok () (w.setRow g (splice old o cells.toList)) := by
  have h := run_storeCells_at (P := P) g o t cells.toList 0 old w hg (by simp; omega) (fun v hv => (Array.all_eq_true_iff_forall_mem.1 h1) v (by simpa using hv))
  rw [Nat.add_zero] at h
  have this : (storeCells ⟨g, o, none⟩ cells.toList 0).run P w = .ok () (w.setRow g (splice old o cells.toList)) := h
  cases hq : P.info? ty with
  | none => simp [hq] at hi
  | some i =>
    have hs : cells.size = i.size := by simp [hq] at hi; omega
    simp [storeVar, sizeOf, typeInfo, hq, Value.cells, hs, this]

theorem wp_store_at {o : Oper} {a : Act} {w : World} {K : Act → World → Prop} {Q : Exit → Act → World → Prop} (ty : TypeId) (x y : Operand) (ho : o.op = .store ty x y)
    (g p : Nat) (cells : Array Value) (hx : a.eval x = .pointer (some ⟨g, p, none⟩)) (hy : a.eval y = .agg cells)
    (t : TypeId) (old : Array Value) (hg : w.heap[g]? = some (.cells old t (0, 0))) (hi : (P.info? ty).map (·.size) = some cells.size)
    (hold : p + cells.size ≤ old.size) (h1 : cells.all (·.oneCell') = true)
    (h : K (a.put o.dst undef) (w.setRow g (splice old p cells.toList))) : o.wp P a w K Q := by
  unfold Oper.wp execOp
  simp only [ho, hx, hy, Instr.storeAt, Instr.sureAddr, Sem.run_bind, Sem.run_pure, Result.andThen_ok, run_storeVar_at w g p t ty old cells hg hi hold h1]
  exact h

theorem wpList_store_at {ops : Array Oper} {rest : List Oper} {o : Oper} {a : Act} {w : World} {Q : Exit → Act → World → Prop} (hgd : o.guard = none) (ty : TypeId) (x y : Operand) (ho : o.op = .store ty x y)
    (g p : Nat) (cells : Array Value) (hx : a.eval x = .pointer (some ⟨g, p, none⟩)) (hy : a.eval y = .agg cells)
    (t : TypeId) (old : Array Value) (hg : w.heap[g]? = some (.cells old t (0, 0))) (hi : (P.info? ty).map (·.size) = some cells.size)
    (hold : p + cells.size ≤ old.size) (h1 : cells.all (·.oneCell') = true)
    (h : wpList P ops Q rest (a.put o.dst undef) (w.setRow g (splice old p cells.toList))) : wpList P ops Q (o :: rest) a w :=
  wpList_plain hgd fun _ hK => wp_store_at ty x y ho g p cells hx hy t old hg hi hold h1 (hK _ _ h)
end

/-- Nine cells were written at ⟨zb, zo⟩; of the old blocks nothing else has turned. -/
structure Wrote (zb zo : Nat) (f : Nat → Value) (w w' : World) : Prop where
  os : w'.os = w.os
  tape : w'.tape = w.tape
  output : w'.output = w.output
  size : w.heap.size ≤ w'.heap.size
  block : ∀ k, k < w.heap.size → k ≠ zb → w'.heap[k]? = w.heap[k]?
  row : ∀ c t, w.heap[zb]? = some (.cells c t (0, 0)) → ∃ c', w'.heap[zb]? = some (.cells c' t (0, 0)) ∧ c'.size = c.size ∧ ∀ j, c'[j]? = if zo ≤ j ∧ j < zo + 9 then some (f (j - zo)) else c[j]?

theorem Wrote.below {zb zo : Nat} {f : Nat → Value} {w w' : World} (h : Wrote zb zo f w w') {B : Nat} (h1 : B ≤ zb) (h2 : B ≤ w.heap.size) : Below B w w' :=
  ⟨h.os, h.tape, h.output, h.size, fun k hk => h.block k (by omega) (by omega)⟩

theorem Wrote.rowIs {zb zo N : Nat} {f g : Nat → Value} {w w' : World} (h : Wrote zb zo f w w') {t : TypeId} (hr : w.rowIs zb t N g) :
    w'.rowIs zb t N (fun j => if zo ≤ j ∧ j < zo + 9 then f (j - zo) else g j) := by
  obtain ⟨c, h1, h2, h3⟩ := hr
  obtain ⟨c', h4, h5, h6⟩ := h.row c t h1
  refine ⟨c', h4, by omega, fun i hi => ?_⟩
  rw [h6 i]
  by_cases hq : zo ≤ i ∧ i < zo + 9
  · simp only [if_pos hq]
  · simp only [if_neg hq]; exact h3 i hi

theorem Wrote.other {zb zo N b : Nat} {f g : Nat → Value} {w w' : World} (h : Wrote zb zo f w w') {t : TypeId} (hne : b ≠ zb) (hr : w.rowIs b t N g) : w'.rowIs b t N g :=
  hr.of_block (h.block b hr.lt hne)

theorem cell_below {B : Nat} {w w' : World} (h : Below B w w') {a : Addr} (ha : a.block < B) {v : Value} (hv : w.cell? a = Option.some v) : w'.cell? a = Option.some v := (h.cell ha).trans hv

/-- The cells of a wordCurve: p, n, pInv, aR, bR2. -/
def wc (q : Nat → Nat) (n : Nat) : Nat → Value := fun j => if j = 9 then .int .i64 n else .int .u64 (q j)
end Go.Proofs.Qxb6002380a
