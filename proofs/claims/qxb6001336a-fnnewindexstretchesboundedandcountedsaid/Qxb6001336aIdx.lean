import Derived.Test.Qxb6001336aNApp
namespace Go.Proofs.Qxb6001336a
open Go.RowKit

/-- AN INDEX OF THE SESSIONS z (n of them) LIES AT ⟨b, o⟩, AND ANSWERS RIGHTLY. -/
def IdxOK (w : World) (b o : Nat) (z : Nat → Int) (n : Nat) : Prop :=
  ∃ (f : Int) (sb so cap sh stb m mc : Nat) (ca : Option Addr) (cl cc : Nat) (cr : Option Addr) (rc : Nat), IdxCells w b o f sb so n cap sh stb m mc ca cl cc cr rc z ∧
    (∀ d, -300000000 ≤ d → d ≤ 300000000 → CrowdOK w f n sh ca cl cr z d) ∧ Asc z n ∧ (∀ i, i < n → f ≤ z i) ∧ n ≤ 65536 ∧ 1 ≤ m ∧ m ≤ 1000000 ∧ cl ≤ 1000000 ∧ sh ≤ 62 ∧
    cnt z (f + (m - 1 : Nat) * 2 ^ sh) n = n ∧ -300000000 ≤ f ∧ f ≤ 300000000

theorem IdxOK.below {w w' : World} {b o : Nat} {z : Nat → Int} {n : Nat} (h : IdxOK w b o z n) (hb : Below w.heap.size w w') : IdxOK w' b o z n := by
  obtain ⟨f, sb, so, cap, sh, stb, m, mc, ca, cl, cc, cr, rc, h1, h2, r⟩ := h
  exact ⟨f, sb, so, cap, sh, stb, m, mc, ca, cl, cc, cr, rc, h1.below hb, fun d hd hd' => (h2 d hd hd').below hb, r⟩

theorem IdxOK.search {w : World} {b o : Nat} {z : Nat → Int} {n : Nat} (h : IdxOK w b o z n) (d : Int) (hd : -300000000 ≤ d) (hd' : d ≤ 300000000) :
    Calls Try.prog 22 #[.pointer (some ⟨b, o, none⟩), .agg #[.int .i32 d]] w (CntP z n d w) := by
  obtain ⟨f, sb, so, cap, sh, stb, m, mc, ca, cl, cc, cr, rc, h1, h2, h3, h4, h5, h6, h7, h8, h9, h10, h11, h12⟩ := h
  exact search_any d h1 (h2 d hd hd') h3 h4 h5 h6 h7 h8 h9 h10 hd hd' h11 h12

theorem IdxOK.before {w : World} {b o : Nat} {z : Nat → Int} {n : Nat} (h : IdxOK w b o z n) (d : Int) (hd : -300000000 ≤ d) (hd' : d ≤ 300000000) :
    Calls Try.prog 23 #[.pointer (some ⟨b, o, none⟩), .agg #[.int .i32 d]] w (CntP z n d w) := by
  obtain ⟨f, sb, so, cap, sh, stb, m, mc, ca, cl, cc, cr, rc, h1, h2, h3, h4, h5, h6, h7, h8, h9, h10, h11, h12⟩ := h
  exact before_any d h1 (h2 d hd hd') h3 h4 h5 h6 h7 h8 h9 h10 hd hd' h11 h12

/-- The j-th cell of the i-th of many sixes. -/
theorem flat6 {ent : List (List Value)} (h6 : ∀ v ∈ ent, v.length = 6) {i : Nat} {v : List Value} (hv : ent[i]? = some v) {j : Nat} (hj : j < 6) : ent.flatten[i * 6 + j]? = v[j]? := by
  induction ent generalizing i with
  | nil => simp at hv
  | cons u us ih =>
    have hu : u.length = 6 := h6 u (by simp)
    cases i with
    | zero =>
      simp at hv
      subst hv
      rw [List.flatten_cons, List.getElem?_append_left (by omega)]
      simp
    | succ i =>
      simp at hv
      rw [List.flatten_cons, List.getElem?_append_right (by omega), hu, show (i + 1) * 6 + j - 6 = i * 6 + j from by omega]
      exact ih (fun v hv => h6 v (by simp [hv])) hv

/-- An index without crowded stretches, six cells in a row. -/
theorem SubV.ok {w : World} {base : Nat} {v : List Value} {sb so n : Nat} {z : Nat → Int} (h : SubV w base v sb so n z) (hn0 : 0 < n) (hn : n ≤ 65536) (hg : Good z n)
    (hs : ∀ i, i < n → w.cell? ⟨sb, so + i, none⟩ = some (.int .i32 (z i))) {b o : Nat} (hc : ∀ j, j < 6 → w.cell? ⟨b, o + j, none⟩ = v[j]?) : IdxOK w b o z n := by
  obtain ⟨cap, sh, q, S, rfl, h1, h2, h3, h4, h5⟩ := h
  have b0 := hg.2 0 hn0
  refine ⟨z 0, sb, so, cap, sh, S, q + 2, q + 2, none, 0, 0, none, 0, ⟨hc 0 (by omega), hc 1 (by omega), hc 2 (by omega), hc 3 (by omega), hc 4 (by omega), hc 5 (by omega), hs, fun i hi => h5.cell hi⟩,
    fun _ _ _ => Or.inl rfl, hg.1, fun i hi => hg.1.le (by omega) hi, hn, by omega, by omega, by omega, by omega, h3, by omega, by omega⟩

/-- FROM WHAT newIndex GIVES TO AN INDEX THAT ANSWERS: the six cells lie at ⟨b, 0⟩ of a later world. -/
theorem NewP.ok {w w' w'' : World} {sb so n cap T : Nat} {split : Bool} {z : Nat → Int} {e : Ending} (h : NewP w sb so n cap T split z e w') (hn0 : 0 < n) (hn : n ≤ 65536) (hg : Good z n)
    (hs : ∀ i, i < n → w.cell? ⟨sb, so + i, none⟩ = some (.int .i32 (z i))) (hb : Below w'.heap.size w' w'') {b : Nat}
    (hc : ∀ vs, e = .returned (.agg vs) → ∀ j, j < 6 → w''.cell? ⟨b, j, none⟩ = vs[j]?) : IdxOK w'' b 0 z n := by
  obtain ⟨sh, q, S, cav, crv, rfl, h1, h2, h3, h4, h5, h6, h7, h8, h9, h10⟩ := h
  have hc' := hc _ rfl
  have b0 := hg.2 0 hn0
  have hlim : limOf split n T ≤ 4 * n := by unfold limOf; split <;> omega
  have hs'' : ∀ i, i < n → w''.cell? ⟨sb, so + i, none⟩ = some (.int .i32 (z i)) := fun i hi => Below.some hb (Below.some h8 (hs i hi))
  have hst : ∀ i, i < q + 2 → w''.cell? ⟨S, i, none⟩ = some (.int .i32 (cnt z (z 0 + i * 2 ^ sh) n)) := fun i hi => Below.some hb (h7.cell hi)
  have plain : cav = .slice none 0 0 → crv = .slice none 0 0 → IdxOK w'' b 0 z n := by
    rintro rfl rfl
    exact ⟨z 0, sb, so, cap, sh, S, q + 2, q + 2, none, 0, 0, none, 0, ⟨hc' 0 (by omega), hc' 1 (by omega), hc' 2 (by omega), hc' 3 (by omega), hc' 4 (by omega), hc' 5 (by omega), hs'', hst⟩,
      fun _ _ _ => Or.inl rfl, hg.1, fun i hi => hg.1.le (by omega) hi, hn, by omega, by omega, by omega, by omega, h5, by omega, by omega⟩
  by_cases hsp : split = false ∨ sh = 0
  · exact plain (h9 hsp).1 (h9 hsp).2
  · have hsp1 : split = true := by cases split <;> simp_all
    have hsp2 : sh ≠ 0 := fun h => hsp (Or.inr h)
    obtain ⟨base, hbase, hA, ent, e1, e2, e3, e4⟩ := h10 hsp1 hsp2
    have hlen := crowdAt_len z n sh (q + 1)
    by_cases hl0 : (crowdAt z n sh (q + 1)).length = 0
    · have hform : ∀ (e size : Nat) (v : Value) (xs : List Value), w'.ownsRow base e size v (crowdAt z n sh (q + 1)).length xs → ∃ a c, v = .slice a 0 c := by
        intro e size v xs ho
        rcases ho.2 with ⟨rfl, _⟩ | ⟨g, cp, cur, rfl, _⟩
        · exact ⟨_, _, rfl⟩
        · rw [hl0]; exact ⟨_, _, rfl⟩
      obtain ⟨a1, c1, rfl⟩ := hform _ _ _ _ hA
      obtain ⟨a2, c2, rfl⟩ := hform _ _ _ _ e2
      exact ⟨z 0, sb, so, cap, sh, S, q + 2, q + 2, a1, 0, c1, a2, c2, ⟨hc' 0 (by omega), hc' 1 (by omega), hc' 2 (by omega), hc' 3 (by omega), hc' 4 (by omega), hc' 5 (by omega), hs'', hst⟩,
        fun _ _ _ => Or.inl rfl, hg.1, fun i hi => hg.1.le (by omega) hi, hn, by omega, by omega, by omega, by omega, h5, by omega, by omega⟩
    · obtain ⟨cab, c1, rfl, _, _⟩ := World.ownsRow.form hA (by omega)
      obtain ⟨crb, c2, rfl, _, _⟩ := World.ownsRow.form e2 (by omega)
      refine ⟨z 0, sb, so, cap, sh, S, q + 2, q + 2, some ⟨cab, 0, none⟩, (crowdAt z n sh (q + 1)).length, c1, some ⟨crb, 0, none⟩, c2, ⟨hc' 0 (by omega), hc' 1 (by omega), hc' 2 (by omega), hc' 3 (by omega), hc' 4 (by omega), hc' 5 (by omega), hs'', hst⟩,
        fun d hd hd' => Or.inr ⟨cab, crb, fun i => (crowdAt z n sh (q + 1)).getD i 0, rfl, rfl, fun i hi => ?_, fun i hi => ?_, fun i hi w1 hw1 => ?_⟩, hg.1, fun i hi => hg.1.le (by omega) hi, hn, by omega, by omega, by omega, by omega, h5, by omega, by omega⟩
      · refine Below.some hb ?_
        have := World.ownsRow.cellAt hA i (by omega)
        rw [this]
        simp [hi]
      · have hv : ∃ v, ent[i]? = some v := ⟨_, List.getElem?_eq_getElem (by omega)⟩
        obtain ⟨v, hv⟩ := hv
        have h6 := e3 v (List.mem_of_getElem? hv)
        have := World.ownsRow.cellAt e2 (i * 6 + 0) (by omega)
        rw [flat6 e3 hv (by omega), List.getElem?_eq_getElem (by omega)] at this
        rw [Nat.add_zero] at this
        rw [Below.some hb this]; rfl
      · dsimp only
        have hk : (crowdAt z n sh (q + 1))[i]? = some ((crowdAt z n sh (q + 1)).getD i 0) := by simp [hi]
        obtain ⟨v, hv, hsub⟩ := e4 i _ hk
        generalize (crowdAt z n sh (q + 1)).getD i 0 = k at hk hsub ⊢
        have hkin : 2 < Sc z n sh (k + 1) - Sc z n sh k := by
          have := List.mem_of_getElem? hk
          unfold crowdAt at this
          simp at this
          omega
        have hB := Sc_le z n sh (k + 1)
        have hb1 : Below w'.heap.size w' w1 := hb.trans (hw1.mono hb.size)
        have ok : IdxOK w1 crb (i * 6) (fun j => z (Sc z n sh k + j)) (Sc z n sh (k + 1) - Sc z n sh k) := by
          refine SubV.ok (hsub.keep (Keep.below hb1)) (by omega) (by omega) ⟨hg.1.sub _ _ (by omega), fun j hj => hg.2 _ (by omega)⟩ (fun j hj => ?_) (fun j hj => ?_)
          · rw [Nat.add_assoc]; exact Below.some hb1 (Below.some h8 (hs _ (by omega)))
          · have h6 := e3 v (List.mem_of_getElem? hv)
            have := World.ownsRow.cellAt e2 (i * 6 + j) (by omega)
            rw [flat6 e3 hv hj, List.getElem?_eq_getElem (by omega)] at this
            rw [Below.some hb1 this, List.getElem?_eq_getElem (by omega)]
        exact ok.before d hd hd'
end Go.Proofs.Qxb6001336a
