import Derived.Test.Qxb6001336aNDefs
namespace Go.Proofs.Qxb6001336a
open Go.RowKit

theorem Try.info3 : (Try.prog.info? 3).map (fun i => (i.zero, i.size, i.bytes)) = some (some (.int .i64 0), 1, 8) := by kernel_rfl
theorem Try.info32 : (Try.prog.info? 32).map (fun i => (i.zero, i.size, i.bytes)) = some (some (.agg #[.int .i32 0, .slice none 0 0, .int .u64 0, .slice none 0 0, .slice none 0 0, .slice none 0 0]), 6, 112) := by kernel_rfl

theorem NW.grown {w wr : World} {N X : Nat} {f s sh st ca cr : Value} (h : NW w wr N X f s sh st ca cr) {w1 : World} {e size n : Nat} {v : Value} {xs : List Value}
    (hg : wr.grownBy w1 v.ownBlock) (ho : wr.ownsRow (X + 1) e size v n xs) : NW w w1 N X f s sh st ca cr := by
  have hne : ∀ b, b ≤ X → some b ≠ v.ownBlock := fun b hb e => by have := (ho.lt b e.symm).1; omega
  have hlt := h.lt
  exact ⟨h.bel.grown hg h.bel.size (fun k hk => by have := (ho.lt k hk).1; have := h.lo; omega), h.lo, h.lt, h.res.of_block (hg.block _ h.res.lt (hne N (by omega))), h.x.of_block (hg.block _ h.x.lt (hne X (Nat.le_refl _)))⟩

/-- 'x.crowdedAt = append(x.crowdedAt, k)'. -/
theorem wpList_append_at {ops : Array Oper} {rest : List Oper} {o : Oper} {a : Act} {w : World} {Q : Exit → Act → World → Prop} (hgd : o.guard = none)
    (ho : o.op = .call { callee := .builtin .append, args := #[.tmp 137, .tmp 139], argTypes := #[29, 29] })
    {base B K : Nat} {l : List Nat} {cav : Value} (hs : a.eval (.tmp 137) = cav) (hx : a.eval (.tmp 139) = .slice (some ⟨B, 0, none⟩) 1 1) (hB : w.heap[B]? = some (.cells #[.int .i64 (K : Int)] 3 (0, 0)))
    (hA : CrowdA w base l cav) (hlen : l.length ≤ 1000000) (hbase : base ≤ w.heap.size)
    (h : ∀ g cp w', CrowdA w' base (l ++ [K]) (.slice (some ⟨g, 0, none⟩) (l.length + 1) cp) → w.grownBy w' cav.ownBlock → wpList Try.prog ops Q rest (a.put o.dst (.slice (some ⟨g, 0, none⟩) (l.length + 1) cp)) w') :
    wpList Try.prog ops Q (o :: rest) a w := by
  obtain ⟨i, hi, hz0, hz1, hz2⟩ := info_parts Try.info3
  refine wpList_append_lies w hgd (.tmp 137) (.tmp 139) 29 ho base 3 i _ 1 8 Try.underlying29 hi hz0 hz1 hz2 rfl (by decide) cav l.length _ hs hA ⟨B, 0, none⟩ 1 1 [.int .i64 (K : Int)] hx rfl
    (World.news_of_block hB) (by intro u hu; simp at hu; subst hu; rfl) (by decide) (by unfold maxLen; omega) (by omega) hbase _ rfl ?_
  intro g cp w' hown hgrow _ _
  refine h g cp w' ?_ hgrow
  unfold CrowdA
  simpa using hown

/-- 'x.crowded = append(x.crowded, ..)', as a step of a region that draws its order. -/
theorem step_append_cr {ops : Array Oper} {o : Oper} {a : Act} {w : World} {K : Act → World → Prop} {Q : Exit → Act → World → Prop} {E : Prop} (hgd : o.guard = none)
    (ho : o.op = .call { callee := .builtin .append, args := #[.tmp 143, .tmp 149], argTypes := #[30, 30] })
    {base B n : Nat} {xs : List Value} {crv f s sh st ca cr : Value} (hs : a.eval (.tmp 143) = crv) (hx : a.eval (.tmp 149) = .slice (some ⟨B, 0, none⟩) 1 1) (hB : XRow w B f s sh st ca cr)
    (h0 : f.oneCell' = true) (h1 : s.oneCell' = true) (h2 : sh.oneCell' = true) (h3 : st.oneCell' = true) (h4 : ca.oneCell' = true) (h5 : cr.oneCell' = true)
    (hA : w.ownsRow base 32 6 crv n xs) (hlen : n ≤ 1000000) (hbase : base ≤ w.heap.size)
    (h : ∀ g cp w', w'.ownsRow base 32 6 (.slice (some ⟨g, 0, none⟩) (n + 1) cp) (n + 1) (xs ++ [f, s, sh, st, ca, cr]) → w.grownBy w' crv.ownBlock → K (a.put o.dst (.slice (some ⟨g, 0, none⟩) (n + 1) cp)) w') :
    if Region.wanted o (yielded ops a.tmps) = true then Oper.wp Try.prog o a w K Q else E := by
  obtain ⟨i, hi, hz0, hz1, hz2⟩ := info_parts Try.info32
  refine step_append_lies w hgd (.tmp 143) (.tmp 149) 30 ho base 32 i _ 6 112 Try.underlying30 hi hz0 hz1 hz2 rfl (by decide) crv n xs hs hA ⟨B, 0, none⟩ 1 1 [f, s, sh, st, ca, cr] hx rfl
    (World.news_of_block hB) (by intro u hu; simp at hu; rcases hu with rfl | rfl | rfl | rfl | rfl | rfl <;> assumption) (by decide) (by unfold maxLen; omega) (by omega) hbase _ rfl ?_
  intro g cp w' hown hgrow _ _
  exact h g cp w' hown hgrow

/-- What is known of an index without crowded stretches that newIndex has just made. -/
def SubF (w : World) (base n : Nat) (z : Nat → Int) (sh q S : Nat) : Prop :=
  sh ≤ 30 ∧ q ≤ 262144 ∧ Sc z n sh (q + 1) = n ∧ base ≤ S ∧ w.rowIs S 21 (q + 2) (fun i => .int .i32 (Sc z n sh i))

/-- The contract of newIndex at 'split == false', as a premise. -/
def NewFalse (sb : Nat) : Prop := ∀ (so' p' cap' T' : Nat) (z' : Nat → Int) (w1 : World), p' + 1 ≤ 65536 → p' + 1 ≤ cap' → (∀ i, i < p' + 1 → w1.cell? ⟨sb, so' + i, none⟩ = some (.int .i32 (z' i))) → Good z' (p' + 1) → z' p' - z' 0 = (T' : Int) →
  Calls Try.prog 21 #[.slice (some ⟨sb, so', none⟩) (p' + 1) cap', .bool false] w1 (NewP w1 sb so' (p' + 1) cap' T' false z')

/-- newIndex(sessions[A:B], false). -/
theorem sub_call {sb so A B cap n : Nat} {z : Nat → Int} {w1 : World} (ih : NewFalse sb) (hAB : A < B) (hBn : B ≤ n) (hn : n ≤ 65536) (hcap : n ≤ cap) (hg : Good z n)
    (hs : ∀ i, i < n → w1.cell? ⟨sb, so + i, none⟩ = some (.int .i32 (z i))) :
    Calls Try.prog 21 #[.slice (some ⟨sb, so + A, none⟩) (B - A) (cap - A), .bool false] w1 (fun e w' => ∃ sh' q' S' : Nat,
      e = .returned (.agg #[.int .i32 (z A), .slice (some ⟨sb, so + A, none⟩) (B - A) (cap - A), .int .u64 sh', .slice (some ⟨S', 0, none⟩) (q' + 2) (q' + 2), .slice none 0 0, .slice none 0 0]) ∧
      Below w1.heap.size w1 w' ∧ SubF w' w1.heap.size (B - A) (fun j => z (A + j)) sh' q' S') := by
  obtain ⟨p', hp'⟩ : ∃ p', B - A = p' + 1 := ⟨B - A - 1, by omega⟩
  have hle := hg.1.le (i := A) (j := A + p') (by omega) (by omega)
  obtain ⟨T', hT'⟩ : ∃ T' : Nat, z (A + p') - z (A + 0) = (T' : Int) := Int.eq_ofNat_of_zero_le (by simp; omega)
  have hg' : Good (fun j => z (A + j)) (p' + 1) := ⟨hg.1.sub A (p' + 1) (by omega), fun i hi => hg.2 (A + i) (by omega)⟩
  rw [hp']
  refine (ih (so + A) p' (cap - A) T' (fun j => z (A + j)) w1 (by omega) (by omega) (fun i hi => ?_) hg' hT').mono ?_
  · rw [Nat.add_assoc]; exact hs (A + i) (by omega)
  · rintro e w' ⟨sh, q, S, cav, crv, rfl, h1, h2, h3, _, h5, h6, h7, h8, h9, _⟩
    obtain ⟨rfl, rfl⟩ := h9 (Or.inl rfl)
    refine ⟨sh, q, S, rfl, h8, h1, ?_, h5, h6, h7⟩
    unfold limOf at h3
    simp at h3
    omega

theorem SubF.subV {w : World} {base n sb so cap : Nat} {z : Nat → Int} {sh q S : Nat} (h : SubF w base n z sh q S) {base' : Nat} (hb : base' ≤ base) :
    SubV w base' [.int .i32 (z 0), .slice (some ⟨sb, so, none⟩) n cap, .int .u64 sh, .slice (some ⟨S, 0, none⟩) (q + 2) (q + 2), .slice none 0 0, .slice none 0 0] sb so n z :=
  ⟨cap, sh, q, S, rfl, h.1, h.2.1, h.2.2.1, Nat.le_trans hb h.2.2.2.1, h.2.2.2.2⟩

/-- One more crowded stretch. -/
theorem CrowdR.snoc {w w' : World} {base sb so n : Nat} {z : Nat → Int} {sh K g cp : Nat} {l : List Nat} {ent : List (List Value)} {v : List Value}
    (e1 : ent.length = l.length) (e3 : ∀ v ∈ ent, v.length = 6)
    (e4 : ∀ (i k : Nat), l[i]? = some k → ∃ v, ent[i]? = some v ∧ SubV w base v sb (so + Sc z n sh k) (Sc z n sh (k + 1) - Sc z n sh k) (fun j => z (Sc z n sh k + j)))
    (hk : Keep base 21 w w') (hv : SubV w' base v sb (so + Sc z n sh K) (Sc z n sh (K + 1) - Sc z n sh K) (fun j => z (Sc z n sh K + j)))
    (hown : w'.ownsRow base 32 6 (.slice (some ⟨g, 0, none⟩) (l.length + 1) cp) (l.length + 1) (ent.flatten ++ v)) :
    CrowdR w' base sb so n z sh (l ++ [K]) (.slice (some ⟨g, 0, none⟩) (l.length + 1) cp) := by
  refine ⟨ent ++ [v], by simp [e1], by simpa using hown, ?_, ?_⟩
  · intro u hu
    simp at hu
    rcases hu with h | rfl
    · exact e3 u h
    · obtain ⟨cap, sh', q', S', rfl, _⟩ := hv; rfl
  · intro i k hi
    rcases Nat.lt_or_ge i l.length with h | h
    · rw [List.getElem?_append_left h] at hi
      obtain ⟨u, hu, hs⟩ := e4 i k hi
      exact ⟨u, by rw [List.getElem?_append_left (by omega)]; exact hu, hs.keep hk⟩
    · rw [List.getElem?_append_right h] at hi
      have hi0 : i = l.length := by
        rcases Nat.eq_or_lt_of_le h with h' | h'
        · exact h'.symm
        · rw [List.getElem?_eq_none (by simp; omega)] at hi; cases hi
      subst hi0
      simp at hi
      subst hi
      exact ⟨v, by rw [← e1]; simp, hv⟩

theorem ownsRow_one {w : World} {base e size n : Nat} {v : Value} {xs : List Value} (h : w.ownsRow base e size v n xs) : v.oneCell' = true := by
  rcases h.2 with ⟨rfl, _⟩ | ⟨g, cap, cur, rfl, _⟩ <;> rfl
theorem crowdR_one {w : World} {base sb so n : Nat} {z : Nat → Int} {sh : Nat} {l : List Nat} {crv : Value} (h : CrowdR w base sb so n z sh l crv) : crv.oneCell' = true := by
  obtain ⟨ent, _, h2, _⟩ := h
  exact ownsRow_one h2
theorem Keep.setRow {base : Nat} {t : TypeId} (w : World) {g : Nat} (hg : g < base) (cs : Array Value) : Keep base t w (w.setRow g cs) := fun b _ hb _ => setRow_other w g b cs (by omega)

theorem Sc_mono (z : Nat → Int) (n sh : Nat) {i j : Nat} (h : i ≤ j) : Sc z n sh i ≤ Sc z n sh j := by
  unfold Sc; exact cnt_mono z n (by have := mul_pow_mono h sh; omega)
end Go.Proofs.Qxb6001336a
