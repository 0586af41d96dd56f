import Derived.Test.Qxb6002380aLen3
namespace Go.Proofs.Qxb6002380a
open Go.RowKit

set_option maxRecDepth 100000 in
set_option maxHeartbeats 1000000 in
theorem zzlen (v : Value) (k N base : Nat) (xs : List Value) (w : World) (hown : w.ownsRow base 5 1 v k xs) (hk : k ≤ 1048576) (hbase : base ≤ w.heap.size) (hN : N < 9223372036854775808) :
    Calls Try.prog 14 #[v, .int .i64 N] w (LenP base k N xs w) := by
  have h : Calls Try.prog 32 #[v, .int .i64 N] w (LenP base k N xs w) := by
    by_cases h : N < 128
    · exact len_short v k N base xs w hown hk hbase h
    · exact len_long v k N base xs w hown hk hbase (by omega) hN
  have Hh := hide h
  have Hown := hide hown
  clear h hown
  go_enter Try.func14, Try.ntmps14
  go_wp2_with (go_at_call 32; refine Hh.out.mono ?_; rintro e w1 ⟨v', rfl, hp⟩; have Hp := hide hp; clear hp)
  go_ret
  exact ⟨v', rfl, Hp.out⟩

theorem dec_any (g off cap N : Nat) (w : World) (hN : N < 9223372036854775808)
    (hc : ∀ i, i < (encLen N).length → w.cell? ⟨g, off + i, none⟩ = some (.int .u8 (((encLen N).getD i 0 : Nat) : Int))) :
    Calls Try.prog 15 #[.slice (some ⟨g, off, none⟩) (encLen N).length cap] w fun e w' => e = .returned (.tuple #[.int .u64 N, .int .i64 ((encLen N).length : Nat), .bool true]) ∧ w' = w := by
  by_cases h : N < 128
  · have e : encLen N = [N] := by unfold encLen; rw [if_pos h]
    rw [e] at hc ⊢
    have h0 := hc 0 (by simp)
    exact dec_short g off cap N w h h0
  · have e : encLen N = (128 + octs 8 N) :: (List.range (octs 8 N)).map fun i => N / 256 ^ (octs 8 N - 1 - i) % 256 := by
      unfold encLen; rw [if_neg h]
    have hl : (encLen N).length = 1 + octs 8 N := by rw [e]; simp; omega
    rw [hl] at hc ⊢
    refine dec_long g off cap N _ w (by omega) hN rfl ?_ ?_
    · have := hc 0 (by omega)
      rw [e] at this
      simpa using this
    · intro i hi
      rw [hc (1 + i) (by omega), e]
      have : ((128 + octs 8 N) :: (List.range (octs 8 N)).map fun i => N / 256 ^ (octs 8 N - 1 - i) % 256).getD (1 + i) 0 = N / 256 ^ (octs 8 N - 1 - i) % 256 := by
        rw [Nat.add_comm 1 i]
        simp [List.getD, hi]
      rw [this]

/-- A value that owns the bytes z. -/
theorem clone_owns {n : Nat} {z : Nat → Int} {w w' : World} {v : Value} (hn : n ≤ 1048576) (h : (v = .slice none 0 0 ∧ n = 0) ∨ ∃ g, v = .slice (some ⟨g, 0, none⟩) n n ∧ w.heap.size ≤ g ∧ w'.rowIs g 5 n (fun i => .int .u8 (z i))) :
    w'.ownsRow w.heap.size 5 1 v n ((List.range n).map fun i => .int .u8 (z i)) := by
  refine ⟨by simp, ?_⟩
  rcases h with h | ⟨g, hv, hg, c, hb, hs, hc⟩
  · exact Or.inl h
  · refine Or.inr ⟨g, n, c, hv, hg, hb, Nat.le_refl _, by unfold maxLen; omega, by omega, ?_⟩
    apply List.ext_getElem?
    intro i
    rw [List.getElem?_take]
    by_cases hi : i < n
    · rw [if_pos (by omega)]
      simp only [List.getElem?_map, List.getElem?_range hi, Option.map_some]
      rw [← hc i hi]; simp
    · rw [if_neg (by omega), List.getElem?_eq_none (by simp; omega)]

/-- The same of a clone, as a slice with cells. -/
theorem clone_slice {n : Nat} {z : Nat → Int} {w w' : World} {v : Value} (h : (v = .slice none 0 0 ∧ n = 0) ∨ ∃ g, v = .slice (some ⟨g, 0, none⟩) n n ∧ w.heap.size ≤ g ∧ w'.rowIs g 5 n (fun i => .int .u8 (z i))) :
    ∃ a, v = .slice a n n ∧ Row .u8 w' a n z := by
  rcases h with ⟨rfl, rfl⟩ | ⟨g, hv, _, hr⟩
  · exact ⟨none, rfl, Or.inl rfl⟩
  · exact ⟨_, hv, row_of_rowIs hr⟩

/-- What the law knows of the appended row. -/
theorem out_cells {base n N : Nat} {z : Nat → Int} {w : World} {v : Value} (h : w.ownsRow base 5 1 v (n + (encLen N).length) (((List.range n).map fun i => Value.int .u8 (z i)) ++ octV (encLen N))) :
    ∃ g cap, v = .slice (some ⟨g, 0, none⟩) (n + (encLen N).length) cap ∧ n + (encLen N).length ≤ cap ∧ cap ≤ maxLen ∧ (∀ i, i < n → w.cell? ⟨g, i, none⟩ = some (.int .u8 (z i))) ∧
      ∀ i, i < (encLen N).length → w.cell? ⟨g, n + i, none⟩ = some (.int .u8 (((encLen N).getD i 0 : Nat) : Int)) := by
  have hL : 0 < (encLen N).length := by unfold encLen; split <;> simp
  obtain ⟨g, cap, rfl, _, _⟩ := h.form (by omega)
  have hcap : n + (encLen N).length ≤ cap ∧ cap ≤ maxLen := by
    rcases h.2 with ⟨h', _⟩ | ⟨g', cap', cur, h', _, hg, h1, h2, _⟩
    · simp at h'
    · simp only [Value.slice.injEq, Option.some.injEq, Addr.mk.injEq, and_true, true_and] at h'
      obtain ⟨rfl, rfl⟩ := h'
      exact ⟨h1, h2⟩
  refine ⟨g, cap, rfl, hcap.1, hcap.2, fun i hi => ?_, fun i hi => ?_⟩
  · rw [h.cellAt i (by omega), List.getElem?_append_left (by simp; exact hi)]
    simp [List.getElem?_range hi]
  · rw [h.cellAt (n + i) (by omega), List.getElem?_append_right (by simp)]
    simp [octV, List.getElem?_eq_getElem hi, List.getD]
end Go.Proofs.Qxb6002380a
