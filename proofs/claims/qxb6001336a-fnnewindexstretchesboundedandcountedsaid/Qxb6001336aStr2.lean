import Derived.Test.Qxb6001336aStr1
namespace Go.Proofs.Qxb6001336a
open Go.RowKit

/-- The list that x.crowdedAt must hold. -/
def crowdList (z : Nat → Int) (n sh q : Nat) (split : Bool) : List Nat := if split = true ∧ sh ≠ 0 then crowdAt z n sh (q + 1) else []

/-- THE INDEX AS IT LIES IN MEMORY, for the law on its stretches. -/
structure Built (wr : World) (X S sh q n T : Nat) (split : Bool) (z : Nat → Int) (ca : Option Addr) (cc : Nat) (sv crv : Value) : Prop where
  x : XRow wr X (.int .i32 (z 0)) sv (.int .u64 sh) (.slice (some ⟨S, 0, none⟩) (q + 2) (q + 2)) (.slice ca (crowdList z n sh q split).length cc) crv
  row : wr.rowIs S 21 (q + 2) (fun i => .int .i32 (Sc z n sh i))
  crowd : crowdList z n sh q split = [] ∨ ∃ cab, ca = some ⟨cab, 0, none⟩ ∧ ∀ i k : Nat, (crowdList z n sh q split)[i]? = some k → wr.cell? ⟨cab, i, none⟩ = some (.int .i64 (k : Int))
  hsh : sh ≤ 30
  hq : q = T / 2 ^ sh
  hlim : q < limOf split n T
  hbef : ∀ t, t < sh → limOf split n T ≤ T / 2 ^ t
  hend : Sc z n sh (q + 1) = n

theorem NewP.built {w w' w2 : World} {sb so n cap T : Nat} {split : Bool} {z : Nat → Int} {f s shv st ca cr : Value} (h : NewP w sb so n cap T split z (.returned (.agg #[f, s, shv, st, ca, cr])) w') {X : Nat}
    (hb : Below w'.heap.size w' w2) (hx : XRow w2 X f s shv st ca cr) : ∃ S sh q ca cc sv crv, Built w2 X S sh q n T split z ca cc sv crv := by
  obtain ⟨sh, q, S, cav, crv, he, h1, h2, h3, h4, h5, h6, h7, h8, h9, h10⟩ := h
  simp only [Ending.returned.injEq, Value.agg.injEq, Array.mk.injEq, List.cons.injEq, and_true] at he
  obtain ⟨rfl, rfl, rfl, rfl, rfl, rfl⟩ := he
  have hrow : w2.rowIs S 21 (q + 2) (fun i => .int .i32 (Sc z n sh i)) := h7.of_block (hb.block S h7.lt)
  by_cases hsp : split = true ∧ sh ≠ 0
  · obtain ⟨base, hbase, hA, hR⟩ := h10 hsp.1 hsp.2
    have hl : crowdList z n sh q split = crowdAt z n sh (q + 1) := by unfold crowdList; rw [if_pos hsp]
    have hform : ∃ a c, ca = .slice a (crowdAt z n sh (q + 1)).length c := by
      rcases hA.2 with ⟨rfl, h0⟩ | ⟨g, cp, cur, rfl, _⟩
      · rw [h0]; exact ⟨_, _, rfl⟩
      · exact ⟨_, _, rfl⟩
    obtain ⟨a, c, rfl⟩ := hform
    refine ⟨S, sh, q, a, c, _, _, by rw [hl]; exact hx, hrow, ?_, h1, h2, h3, h4, h5⟩
    rw [hl]
    by_cases h0 : (crowdAt z n sh (q + 1)).length = 0
    · exact Or.inl (List.eq_nil_of_length_eq_zero h0)
    · obtain ⟨cab, c1, he, _, _⟩ := World.ownsRow.form hA (by omega)
      simp only [Value.slice.injEq, true_and] at he
      obtain ⟨rfl, rfl⟩ := he
      refine Or.inr ⟨cab, rfl, fun i k hik => Below.some hb ?_⟩
      have hi : i < (crowdAt z n sh (q + 1)).length := by
        rcases Nat.lt_or_ge i (crowdAt z n sh (q + 1)).length with h | h
        · exact h
        · rw [List.getElem?_eq_none h] at hik; cases hik
      have := World.ownsRow.cellAt hA i (by omega)
      rw [this]
      simp [hik]
  · have hl : crowdList z n sh q split = [] := by unfold crowdList; rw [if_neg hsp]
    obtain ⟨rfl, rfl⟩ := h9 (by cases split <;> simp_all)
    exact ⟨S, sh, q, none, 0, _, _, by rw [hl]; exact hx, hrow, Or.inl hl, h1, h2, h3, h4, h5⟩

/-- ZZNewIndex of n > 0 sessions. -/
theorem zznew_n (sb n T : Nat) (split : Bool) (z : Nat → Int) (w : World) (hn0 : 0 < n) (hn : n ≤ 65536) (hg : Good z n) (hrow : w.rowIs sb 26 n (fun i => .int .i32 (z i))) (hT : ∀ p, n = p + 1 → z p - z 0 = (T : Int)) :
    Calls Try.prog 8 #[.slice (some ⟨sb, 0, none⟩) n n, .bool split] w (fun e w' => ∃ f s sh st ca cr, e = .returned (.agg #[f, s, sh, st, ca, cr]) ∧ Six f s sh st ca cr ∧ NewP w sb 0 n n T split z (.returned (.agg #[f, s, sh, st, ca, cr])) w') := by
  cases n with
  | zero => omega
  | succ p =>
    refine (zznew_pos sb p T split z w hn hg hrow (hT p rfl)).mono ?_
    rintro e w' ⟨f, s, sh, st, ca, cr, rfl, six, hN⟩
    exact ⟨f, s, sh, st, ca, cr, rfl, six, hN⟩

theorem Built.below {w w' : World} {X S sh q n T : Nat} {split : Bool} {z : Nat → Int} {ca : Option Addr} {cc : Nat} {sv crv : Value} (h : Built w X S sh q n T split z ca cc sv crv) (hb : Below w.heap.size w w') : Built w' X S sh q n T split z ca cc sv crv := by
  obtain ⟨h1, h2, h3, h4⟩ := h
  refine ⟨h1.of_block (hb.block _ h1.lt), h2.of_block (hb.block _ h2.lt), ?_, h4, by assumption, by assumption, by assumption, by assumption⟩
  rcases h3 with h3 | ⟨cab, hc, h3⟩
  · exact Or.inl h3
  · exact Or.inr ⟨cab, hc, fun i k hik => Below.some hb (h3 i k hik)⟩
end Go.Proofs.Qxb6001336a
