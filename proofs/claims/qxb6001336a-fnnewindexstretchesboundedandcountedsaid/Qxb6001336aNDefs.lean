import Derived.Test.Qxb6001336aBefore
import Derived.Deep.LoopGhost
import Derived.Deep.AppendLies
import Derived.Deep.RegionHeldLaw
import Derived.Laws.CopyOwn
import Derived.Great.Frames
namespace Go.Proofs.Qxb6001336a
open Go.RowKit

/-- The index variable's own block: six cells, none frozen. -/
def XRow (w : World) (X : Nat) (f s sh st ca cr : Value) : Prop := w.heap[X]? = some (.cells #[f, s, sh, st, ca, cr] 32 (0, 0))

namespace XRow
variable {w : World} {X : Nat} {f s sh st ca cr : Value}
theorem cell (h : XRow w X f s sh st ca cr) (j : Nat) : w.cell? ⟨X, j, none⟩ = #[f, s, sh, st, ca, cr][j]? := by
  have h' : w.heap[X]? = some (.cells #[f, s, sh, st, ca, cr] 32 (0, 0)) := h
  simp [World.cell?, h']
theorem frozen (h : XRow w X f s sh st ca cr) (j : Nat) : w.frozen? ⟨X, j, none⟩ = false := by
  have h' : w.heap[X]? = some (.cells #[f, s, sh, st, ca, cr] 32 (0, 0)) := h
  simp [World.frozen?, h']
theorem lt (h : XRow w X f s sh st ca cr) : X < w.heap.size := by
  have h' : w.heap[X]? = some (.cells #[f, s, sh, st, ca, cr] 32 (0, 0)) := h
  obtain ⟨hlt, _⟩ := Array.getElem?_eq_some_iff.1 h'
  exact hlt
theorem of_block {w' : World} (h : XRow w X f s sh st ca cr) (e : w'.heap[X]? = w.heap[X]?) : XRow w' X f s sh st ca cr := e.trans h
theorem set2 (h : XRow w X f s sh st ca cr) (v : Value) : XRow (w.setCell ⟨X, 2, none⟩ v) X f s v st ca cr := by
  have h' : w.heap[X]? = some (.cells #[f, s, sh, st, ca, cr] 32 (0, 0)) := h
  simp [XRow, World.setCell, Array.getElem?_modify, h']
theorem set3 (h : XRow w X f s sh st ca cr) (v : Value) : XRow (w.setCell ⟨X, 3, none⟩ v) X f s sh v ca cr := by
  have h' : w.heap[X]? = some (.cells #[f, s, sh, st, ca, cr] 32 (0, 0)) := h
  simp [XRow, World.setCell, Array.getElem?_modify, h']
theorem set4 (h : XRow w X f s sh st ca cr) (v : Value) : XRow (w.setCell ⟨X, 4, none⟩ v) X f s sh st v cr := by
  have h' : w.heap[X]? = some (.cells #[f, s, sh, st, ca, cr] 32 (0, 0)) := h
  simp [XRow, World.setCell, Array.getElem?_modify, h']
theorem set5 (h : XRow w X f s sh st ca cr) (v : Value) : XRow (w.setCell ⟨X, 5, none⟩ v) X f s sh st ca v := by
  have h' : w.heap[X]? = some (.cells #[f, s, sh, st, ca, cr] 32 (0, 0)) := h
  simp [XRow, World.setCell, Array.getElem?_modify, h']
theorem new (w : World) (f s sh st ca cr : Value) : XRow (w.alloc (.cells #[f, s, sh, st, ca, cr] 32)) w.heap.size f s sh st ca cr := by
  exact heap_alloc_new w _
theorem alloc (h : XRow w X f s sh st ca cr) (o : Obj) : XRow (w.alloc o) X f s sh st ca cr := h.of_block (Below.heap_alloc _ _ _ h.lt)
theorem setOther (h : XRow w X f s sh st ca cr) {a : Addr} (ha : X ≠ a.block) (v : Value) : XRow (w.setCell a v) X f s sh st ca cr := h.of_block (Below.heap_setCell _ _ _ _ ha)
end XRow

/-- THE WORLD IN THE MIDDLE OF newIndex: what was there is as it was; the result's block N is still zero; the variable x lies in block X. -/
structure NW (w wr : World) (N X : Nat) (f s sh st ca cr : Value) : Prop where
  bel : Below w.heap.size w wr
  lo : w.heap.size ≤ N
  lt : N < X
  res : XRow wr N (.int .i32 0) (.slice none 0 0) (.int .u64 0) (.slice none 0 0) (.slice none 0 0) (.slice none 0 0)
  x : XRow wr X f s sh st ca cr

namespace NW
variable {w wr : World} {N X : Nat} {f s sh st ca cr : Value}
theorem alloc (h : NW w wr N X f s sh st ca cr) (o : Obj) : NW w (wr.alloc o) N X f s sh st ca cr :=
  ⟨h.bel.alloc h.bel.size o, h.lo, h.lt, h.res.alloc o, h.x.alloc o⟩
theorem drew (h : NW w wr N X f s sh st ca cr) : NW w wr.drew N X f s sh st ca cr := ⟨h.bel.drew, h.lo, h.lt, h.res, h.x⟩
theorem drewN (h : NW w wr N X f s sh st ca cr) (q : Nat) : NW w (wr.drewN q) N X f s sh st ca cr := ⟨below_drewN h.bel q, h.lo, h.lt, h.res, h.x⟩
theorem below (h : NW w wr N X f s sh st ca cr) {w' : World} (hb : Below wr.heap.size wr w') : NW w w' N X f s sh st ca cr :=
  ⟨h.bel.trans (hb.mono h.bel.size), h.lo, h.lt, h.res.of_block (hb.block _ h.res.lt), h.x.of_block (hb.block _ h.x.lt)⟩
theorem setOther (h : NW w wr N X f s sh st ca cr) {a : Addr} (h1 : X ≠ a.block) (h2 : N ≠ a.block) (h3 : w.heap.size ≤ a.block) (v : Value) : NW w (wr.setCell a v) N X f s sh st ca cr :=
  ⟨h.bel.setCell h3 v, h.lo, h.lt, h.res.setOther h2 v, h.x.setOther h1 v⟩
theorem set2 (h : NW w wr N X f s sh st ca cr) (v : Value) : NW w (wr.setCell ⟨X, 2, none⟩ v) N X f s v st ca cr :=
  ⟨h.bel.setCell (by have := h.lo; have := h.lt; show _ ≤ X; omega) v, h.lo, h.lt, h.res.setOther (Nat.ne_of_lt h.lt) v, h.x.set2 v⟩
theorem set3 (h : NW w wr N X f s sh st ca cr) (v : Value) : NW w (wr.setCell ⟨X, 3, none⟩ v) N X f s sh v ca cr :=
  ⟨h.bel.setCell (by have := h.lo; have := h.lt; show _ ≤ X; omega) v, h.lo, h.lt, h.res.setOther (Nat.ne_of_lt h.lt) v, h.x.set3 v⟩
theorem set4 (h : NW w wr N X f s sh st ca cr) (v : Value) : NW w (wr.setCell ⟨X, 4, none⟩ v) N X f s sh st v cr :=
  ⟨h.bel.setCell (by have := h.lo; have := h.lt; show _ ≤ X; omega) v, h.lo, h.lt, h.res.setOther (Nat.ne_of_lt h.lt) v, h.x.set4 v⟩
theorem set5 (h : NW w wr N X f s sh st ca cr) (v : Value) : NW w (wr.setCell ⟨X, 5, none⟩ v) N X f s sh st ca v :=
  ⟨h.bel.setCell (by have := h.lo; have := h.lt; show _ ≤ X; omega) v, h.lo, h.lt, h.res.setOther (Nat.ne_of_lt h.lt) v, h.x.set5 v⟩
end NW

/-- 'make([]int32, q+2)'. -/
theorem make_starts (q : Nat) (hq : q ≤ 1000000) (w : World) : (Instr.makeSlice 22 (.int .i64 ((q : Int) + 2)) (.int .i64 ((q : Int) + 2))).run Try.prog w = .ok (.slice (some ⟨w.heap.size, 0, none⟩) (q + 2) (q + 2)) (w.alloc (.cells (madeCells #[.int .i32 0] (q + 2)) 21)) :=
  run_make_row' 22 21 (.int .i32 0) 4 Try.underlying22 Try.info21 rfl .i64 .i64 (q + 2) (by omega) (by omega) w

theorem pow_le_of_div {T s : Nat} (h : 1 ≤ T / 2 ^ s) (hT : T ≤ 536870912) : s ≤ 29 := by
  rcases Nat.lt_or_ge 29 s with h1 | h1
  · have h2 : 2 ^ 30 ≤ 2 ^ s := Nat.pow_le_pow_right (by decide) h1
    have h3 : T / 2 ^ s = 0 := Nat.div_eq_of_lt (by omega)
    omega
  · exact h1

theorem div_cast (T s : Nat) : (T : Int) / 2 ^ s = ((T / 2 ^ s : Nat) : Int) := by
  rw [Int.natCast_ediv, Int.natCast_pow]; rfl

theorem Try.size32 : (Try.prog.info? 32).map (·.size) = some 6 := by kernel_rfl

theorem one6 {f s sh st ca cr : Value} (h0 : f.oneCell' = true) (h1 : s.oneCell' = true) (h2 : sh.oneCell' = true) (h3 : st.oneCell' = true) (h4 : ca.oneCell' = true) (h5 : cr.oneCell' = true) : (#[f, s, sh, st, ca, cr].all (·.oneCell')) = true := by
  simp [*]

/-- 'return x': the variable's six cells are copied into the result's. -/
theorem wp_copyx {Q : Exit → Act → World → Prop} {id t : Nat} {ty1 ty2 : TypeId} {pos1 pos2 : String} {af1 af2 : Array Edge} {a : Act} {w : World} {X N : Nat} {f s sh st ca cr r0 r1 r2 r3 r4 r5 : Value}
    (hx : XRow w X f s sh st ca cr) (hr : XRow w N r0 r1 r2 r3 r4 r5)
    (h0 : f.oneCell' = true) (h1 : s.oneCell' = true) (h2 : sh.oneCell' = true) (h3 : st.oneCell' = true) (h4 : ca.oneCell' = true) (h5 : cr.oneCell' = true)
    (e5 : a.eval (.tmp 5) = .pointer (some ⟨X, 0, none⟩)) (e4 : a.eval (.tmp 4) = .pointer (some ⟨N, 0, none⟩)) (ht : t ≠ 4) (hlt : t < a.tmps.size)
    (hQ : ∀ a' : Act, a'.tmps.getD 4 undef = .pointer (some ⟨N, 0, none⟩) → a'.defers = a.defers → Q .normal a' (w.setRow N #[f, s, sh, st, ca, cr])) :
    Code.wp Try.prog (Code.region id #[{ dst := some t, op := Op.load 32 (Operand.tmp 5), type := ty1, pos := pos1, after := af1, guard := none },
      { dst := none, op := Op.store 32 (Operand.tmp 4) (Operand.tmp t), type := ty2, pos := pos2, after := af2, guard := none }] false) Q a w := by
  refine wp_region_lit ?_
  refine wpList_load_row rfl 32 (.tmp 5) rfl X e5 32 _ (0, 0) _ hx Try.underlying32 rfl Try.size32 ?_
  have e4' := (Act.eval_put_ne a t 4 (.agg #[f, s, sh, st, ca, cr]) ht).trans e4
  refine wpList_store_row rfl 32 (.tmp 4) (.tmp t) rfl N _ e4' (Act.eval_put_same a t _ hlt) 32 _ hr Try.size32 rfl (one6 h0 h1 h2 h3 h4 h5) ?_
  exact wpList_nil (hQ _ e4' (by simp [Act.defers_put']))

/-- .. and read out of it. -/
theorem bodyPost_x {R : Ending → World → Prop} {a : Act} {w : World} {N : Nat} {f s sh st ca cr r0 r1 r2 r3 r4 r5 : Value} (hr : XRow w N r0 r1 r2 r3 r4 r5)
    (e4 : a.tmps.getD 4 undef = .pointer (some ⟨N, 0, none⟩)) (hd : a.defers = []) (hR : R (.returned (.agg #[f, s, sh, st, ca, cr])) (w.setRow N #[f, s, sh, st, ca, cr])) :
    bodyPost Try.prog Try.f21 R .ret a (w.setRow N #[f, s, sh, st, ca, cr]) :=
  bodyPost_ret (results_cell_row Try.results21 _ _ N 32 #[f, s, sh, st, ca, cr] (0, 0) _ e4 (setRow_heap _ _ _ _ _ _ hr) Try.underlying32 rfl Try.size32) hd hR

/-- The most stretches: four a session; where the index is split and they cannot be one day each: one a session. -/
def limOf (split : Bool) (n T : Nat) : Nat := if split = true ∧ 4 * n < T + 1 then n else 4 * n

/-- The stretches of more than two sessions among the first K. -/
def crowdAt (z : Nat → Int) (n sh K : Nat) : List Nat := (List.range K).filter (fun k => decide (2 < Sc z n sh (k + 1) - Sc z n sh k))

theorem crowdAt_miss {z : Nat → Int} {n sh K : Nat} (h : ¬ 2 < Sc z n sh (K + 1) - Sc z n sh K) : crowdAt z n sh (K + 1) = crowdAt z n sh K := by
  unfold crowdAt; rw [List.range_succ, List.filter_append]; simp [h]
theorem crowdAt_hit {z : Nat → Int} {n sh K : Nat} (h : 2 < Sc z n sh (K + 1) - Sc z n sh K) : crowdAt z n sh (K + 1) = crowdAt z n sh K ++ [K] := by
  unfold crowdAt; rw [List.range_succ, List.filter_append]; simp [h]
theorem crowdAt_len (z : Nat → Int) (n sh K : Nat) : (crowdAt z n sh K).length ≤ K := by
  unfold crowdAt; have := List.length_filter_le (fun k => decide (2 < Sc z n sh (k + 1) - Sc z n sh k)) (List.range K); simpa using this

/-- FROM BLOCK 'base' ON, the blocks of cells of type t are as they were. -/
def Keep (base : Nat) (t : TypeId) (w w' : World) : Prop := ∀ b c, base ≤ b → w.heap[b]? = some (.cells c t (0, 0)) → w'.heap[b]? = w.heap[b]?

namespace Keep
variable {base : Nat} {t : TypeId} {w w' : World}
theorem lt {c : Array Value} {b : Nat} (h : w.heap[b]? = some (.cells c t (0, 0))) : b < w.heap.size := (Array.getElem?_eq_some_iff.1 h).1
theorem alloc (w : World) (o : Obj) : Keep base t w (w.alloc o) := fun b _ _ h => Below.heap_alloc w o b (lt h)
theorem drewN (w : World) (q : Nat) : Keep base t w (w.drewN q) := fun _ _ _ _ => rfl
theorem drew (w : World) : Keep base t w w.drew := fun _ _ _ _ => rfl
theorem below (h : Below w.heap.size w w') : Keep base t w w' := fun b _ _ hb => h.block b (lt hb)
theorem trans {w'' : World} (h : Keep base t w w') (k : Keep base t w' w'') : Keep base t w w'' := fun b c hb hc => by
  have e := h b c hb hc
  exact (k b c hb (e.trans hc)).trans e
theorem setCell (w : World) {a : Addr} (ha : a.block < base) (v : Value) : Keep base t w (w.setCell a v) := fun b _ hb _ => Below.heap_setCell w a v b (by omega)
theorem grown {base' e size n : Nat} {v : Value} {xs : List Value} (hg : w.grownBy w' v.ownBlock) (ho : w.ownsRow base' e size v n xs) (he : e ≠ t) : Keep base t w w' := fun b c _ hc => by
  refine hg.block b (lt hc) (fun e' => ?_)
  rcases ho.2 with ⟨rfl, _⟩ | ⟨g, cap, cur, rfl, _, hh, _⟩
  · simp [Value.ownBlock] at e'
  · simp only [Value.ownBlock, Option.some.injEq] at e'
    subst e'
    rw [hh] at hc
    simp only [Option.some.injEq, Obj.cells.injEq] at hc
    exact he hc.2.1
end Keep

theorem ownsRow_keep {w w' : World} {base e size n : Nat} {v : Value} {xs : List Value} (h : w.ownsRow base e size v n xs) (hk : Keep base e w w') : w'.ownsRow base e size v n xs := by
  obtain ⟨h1, h2⟩ := h
  refine ⟨h1, ?_⟩
  rcases h2 with h2 | ⟨g, cap, cur, hv, hg, hh, r⟩
  · exact Or.inl h2
  · exact Or.inr ⟨g, cap, cur, hv, hg, (hk g cur hg hh).trans hh, r⟩

theorem rowIs_keep {w w' : World} {base b t n : Nat} {f : Nat → Value} (h : w.rowIs b t n f) (hb : base ≤ b) (hk : Keep base t w w') : w'.rowIs b t n f := by
  obtain ⟨c, hc, r⟩ := h
  exact ⟨c, (hk b c hb hc).trans hc, r⟩

/-- The six cells of an index that has no crowded stretches, its counts in a row of their own. -/
def SubV (w : World) (base : Nat) (v : List Value) (sb so n : Nat) (z : Nat → Int) : Prop :=
  ∃ cap sh q S : Nat, v = [.int .i32 (z 0), .slice (some ⟨sb, so, none⟩) n cap, .int .u64 sh, .slice (some ⟨S, 0, none⟩) (q + 2) (q + 2), .slice none 0 0, .slice none 0 0] ∧
    sh ≤ 30 ∧ q ≤ 262144 ∧ Sc z n sh (q + 1) = n ∧ base ≤ S ∧ w.rowIs S 21 (q + 2) (fun i => .int .i32 (Sc z n sh i))

theorem SubV.keep {w w' : World} {base : Nat} {v : List Value} {sb so n : Nat} {z : Nat → Int} (h : SubV w base v sb so n z) (hk : Keep base 21 w w') : SubV w' base v sb so n z := by
  obtain ⟨cap, sh, q, S, h1, h2, h3, h4, h5, h6⟩ := h
  exact ⟨cap, sh, q, S, h1, h2, h3, h4, h5, rowIs_keep h6 h5 hk⟩

/-- x.crowdedAt holds the list l. -/
def CrowdA (w : World) (base : Nat) (l : List Nat) (cav : Value) : Prop := w.ownsRow base 3 1 cav l.length (l.map fun (k : Nat) => Value.int .i64 (k : Int))
/-- x.crowded holds an index for each stretch of the list l. -/
def CrowdR (w : World) (base sb so n : Nat) (z : Nat → Int) (sh : Nat) (l : List Nat) (crv : Value) : Prop :=
  ∃ ent : List (List Value), ent.length = l.length ∧ w.ownsRow base 32 6 crv l.length ent.flatten ∧ (∀ v ∈ ent, v.length = 6) ∧
    ∀ (i k : Nat), l[i]? = some k → ∃ v, ent[i]? = some v ∧ SubV w base v sb (so + Sc z n sh k) (Sc z n sh (k + 1) - Sc z n sh k) (fun j => z (Sc z n sh k + j))

theorem CrowdA.keep {w w' : World} {base : Nat} {l : List Nat} {cav : Value} (h : CrowdA w base l cav) (hk : Keep base 3 w w') : CrowdA w' base l cav := ownsRow_keep h hk
theorem CrowdR.keep {w w' : World} {base sb so n : Nat} {z : Nat → Int} {sh : Nat} {l : List Nat} {crv : Value} (h : CrowdR w base sb so n z sh l crv) (h1 : Keep base 32 w w') (h2 : Keep base 21 w w') : CrowdR w' base sb so n z sh l crv := by
  obtain ⟨ent, e1, e2, e3, e4⟩ := h
  refine ⟨ent, e1, ownsRow_keep e2 h1, e3, fun i k hk => ?_⟩
  obtain ⟨v, hv, hs⟩ := e4 i k hk
  exact ⟨v, hv, hs.keep h2⟩

/-- WHAT newIndex GIVES for n > 0 ascending sessions that span T + 1 days. -/
def NewP (w : World) (sb so n cap T : Nat) (split : Bool) (z : Nat → Int) (e : Ending) (w' : World) : Prop :=
  ∃ (sh q S : Nat) (cav crv : Value), e = .returned (.agg #[.int .i32 (z 0), .slice (some ⟨sb, so, none⟩) n cap, .int .u64 sh, .slice (some ⟨S, 0, none⟩) (q + 2) (q + 2), cav, crv]) ∧
    sh ≤ 30 ∧ q = T / 2 ^ sh ∧ q < limOf split n T ∧ (∀ t, t < sh → limOf split n T ≤ T / 2 ^ t) ∧ Sc z n sh (q + 1) = n ∧
    w.heap.size ≤ S ∧ w'.rowIs S 21 (q + 2) (fun i => .int .i32 (Sc z n sh i)) ∧ Below w.heap.size w w' ∧
    ((split = false ∨ sh = 0) → cav = .slice none 0 0 ∧ crv = .slice none 0 0) ∧
    (split = true → sh ≠ 0 → ∃ base, w.heap.size ≤ base ∧ CrowdA w' base (crowdAt z n sh (q + 1)) cav ∧ CrowdR w' base sb so n z sh (crowdAt z n sh (q + 1)) crv)

end Go.Proofs.Qxb6001336a
