import Derived.Test.Qxb6002380aLen1
namespace Go.Proofs.Qxb6002380a
open Go.RowKit

/-- The octets as values. -/
def octV (l : List Nat) : List Value := l.map fun (b : Nat) => Value.int .u8 (b : Int)

theorem ownsRow_below {w w' : World} {base e size n : Nat} {v : Value} {xs : List Value} (h : w.ownsRow base e size v n xs) (hb : Below w.heap.size w w') : w'.ownsRow base e size v n xs := by
  have hlt := h.lt
  obtain ⟨h1, h2⟩ := h
  refine ⟨h1, ?_⟩
  rcases h2 with h2 | ⟨g, cap, cur, rfl, hg, hh, r⟩
  · exact Or.inl h2
  · exact Or.inr ⟨g, cap, cur, rfl, hg, (hb.block g (hlt g rfl).2).trans hh, r⟩

theorem or128 (r : Nat) (h : r ≤ 7) : bits .or .u8 128 (IntKind.u8.wrap (IntKind.i64.wrap (8 - (r : Int)))) = ((128 + (8 - r) : Nat) : Int) := by
  have : r = 0 ∨ r = 1 ∨ r = 2 ∨ r = 3 ∨ r = 4 ∨ r = 5 ∨ r = 6 ∨ r = 7 := by omega
  rcases this with rfl | rfl | rfl | rfl | rfl | rfl | rfl | rfl <;> decide

/-- The octets of the long form, out of the array in which they were laid. -/
theorem news_row {w : World} {O r N : Nat} (hr : r ≤ 7) (h : w.rowIs O 80 8 (fun p => .int .u8 ((if r ≤ p then N / 256 ^ (7 - p) % 256 else 0 : Nat) : Int))) :
    ∀ j u, (octV ((List.range (8 - r)).map fun i => N / 256 ^ (8 - r - 1 - i) % 256))[j]? = some u → w.cell? ((⟨O, r, none⟩ : Addr).add j) = some u := by
  intro j u hu
  have hadd : (⟨O, r, none⟩ : Addr).add j = ⟨O, r + j, none⟩ := by unfold Addr.add; split <;> simp_all
  have hj : j < 8 - r := by
    rcases Nat.lt_or_ge j (8 - r) with h' | h'
    · exact h'
    · rw [List.getElem?_eq_none (by simp [octV]; omega)] at hu; cases hu
  rw [hadd, h.cell (i := r + j) (by omega), if_pos (by omega), ← hu]
  simp only [octV, List.map_map, List.getElem?_map, List.getElem?_range hj, Option.map_some, Function.comp]
  rw [show 7 - (r + j) = 8 - r - 1 - j from by omega]

/-- What appendLength leaves. -/
def LenP (base k N : Nat) (xs : List Value) (w : World) (e : Ending) (w' : World) : Prop :=
  ∃ v', e = .returned v' ∧ w'.ownsRow base 5 1 v' (k + (encLen N).length) (xs ++ octV (encLen N)) ∧ Below base w w'

set_option maxRecDepth 100000 in
set_option maxHeartbeats 1000000 in
theorem len_short (v : Value) (k N base : Nat) (xs : List Value) (w : World) (hown : w.ownsRow base 5 1 v k xs) (hk : k ≤ 1048576) (hbase : base ≤ w.heap.size) (hN : N < 128) :
    Calls Try.prog 32 #[v, .int .i64 N] w (LenP base k N xs w) := by
  have Hown := hide hown
  have HB := hide hbase
  clear hown hbase
  obtain ⟨i0, hi, hz0, hz1, hz2⟩ := info_parts Try.info5
  have Hi := hide hi
  have Hz0 := hide hz0
  have Hz1 := hide hz1
  have Hz2 := hide hz2
  clear hi hz0 hz1 hz2
  go_enter Try.func32, Try.ntmps32
  go_wp2_with (at_builtin; refine wpList_append_own _ rfl _ _ 22 rfl base 5 i0 (.int .u8 0) 1 1 Try.underlying22 Hi.out Hz0.out Hz1.out Hz2.out rfl (by decide) _ _ _ rfl (Hown.out.alloc _) ⟨w.heap.size, 0, none⟩ 1 1 [.int .u8 N] rfl rfl ?c1 ?c2 ?c3 ?c4 ?c5 ?_)
  case c1 =>
    intro j u hj
    match j, hj with
    | 0, hj => simp at hj; subst hj; simp [Addr.add]
  case c2 => intro u hu; simp at hu; subst hu; rfl
  case c3 => unfold maxLen; omega
  case c4 => omega
  case c5 => have := HB.out; simp; omega
  intro v' w1 hown1 hg1 _
  have Hown1 := hide hown1
  have Hg1 := hide hg1
  clear hown1 hg1
  go_wp2
  go_ret
  have e : encLen N = [N] := by unfold encLen; rw [if_pos hN]
  refine ⟨v', rfl, by rw [e]; exact Hown1.out, ?_⟩
  exact Below.grown ((Below.refl base w).alloc HB.out _) Hg1.out (by have := HB.out; simp; omega) (fun kk hkk => (Hown.out.lt kk hkk).1)

set_option maxRecDepth 100000 in
set_option maxHeartbeats 2000000 in
theorem len_long (v : Value) (k N base : Nat) (xs : List Value) (w : World) (hown : w.ownsRow base 5 1 v k xs) (hk : k ≤ 1048576) (hbase : base ≤ w.heap.size) (hN : 128 ≤ N) (hN' : N < 9223372036854775808) :
    Calls Try.prog 32 #[v, .int .i64 N] w (LenP base k N xs w) := by
  have Hown := hide hown
  have HB := hide hbase
  clear hown hbase
  have hfuel : N < 256 ^ 8 := by omega
  have Hst : Hid (∀ j, N / 256 ^ j = 0 ↔ octs 8 N ≤ j) := fun j => octs_step 8 N j hfuel
  have hoct := octs_le 8 N
  have hm0 : 0 < octs 8 N := by
    rcases Nat.eq_zero_or_pos (octs 8 N) with h | h
    · have := (Hst.out 0).2 (by omega)
      simp at this; omega
    · exact h
  clear hfuel
  go_enter Try.func32, Try.ntmps32
  go_wp2
  go_loopw [1, 6] (fun s1 s6 wr => ∃ j r : Nat, j ≤ octs 8 N ∧ r + j = 8 ∧ s1 = .int .i64 (N / 256 ^ j : Nat) ∧ s6 = .int .i64 r ∧ w.heap.size < wr.heap.size ∧ wr.rowIs w.heap.size 80 8 (fun p => .int .u8 ((if r ≤ p then N / 256 ^ (7 - p) % 256 else 0 : Nat) : Int)) ∧ Below w.heap.size w wr) (fun _ s6 _ => (intOf s6).toNat)
  case atStart =>
    refine ⟨0, 8, by omega, rfl, by simp, rfl, by simp, (World.rowIs_alloc w _ 80 _ (fun i hi => ?_)), (Below.refl _ _).alloc (Nat.le_refl _) _⟩
    simp at hi
    have : i = 0 ∨ i = 1 ∨ i = 2 ∨ i = 3 ∨ i = 4 ∨ i = 5 ∨ i = 6 ∨ i = 7 := by omega
    rcases this with rfl | rfl | rfl | rfl | rfl | rfl | rfl | rfl <;> simp
  case round =>
    obtain ⟨j, r, hj, hr, rfl, rfl, hsz, hrow, hbel⟩ := hrel
    by_cases hz : N / 256 ^ j = 0
    · have hjm : j = octs 8 N := Nat.le_antisymm hj ((Hst.out j).1 hz)
      have Hjm := hide hjm
      have Hrow := hide hrow
      rw [hz, Int.natCast_zero]
      have hr7 : r ≤ 7 := by omega
      clear hrow hjm hz
      have hr8 : (r : Int) ≤ 8 := by omega
      go_wp2
      have hor := or128 r hr7
      have hne8 : ¬ (8 = r) := by omega
      obtain ⟨i0, hi, hz0, hz1, hz2⟩ := info_parts Try.info5
      have Hi := hide hi
      have Hz0 := hide hz0
      have Hz1 := hide hz1
      have Hz2 := hide hz2
      clear hi hz0 hz1 hz2
      have HOw := hide (ownsRow_below Hown.out hbel)
      have hbs : base ≤ wr.heap.size := by have := HB.out; omega
      go_region_law (first
        | (refine step_append_lies _ rfl (.tmp 24) (.tmp 29) 22 rfl base 5 i0 (.int .u8 0) 1 1 Try.underlying22 Hi.out Hz0.out Hz1.out Hz2.out rfl (by decide) v k xs rfl (by exact (HOw.out.drew.alloc _)) ⟨wr.heap.size, 0, none⟩ 1 1 [.int .u8 ((128 + (8 - r) : Nat) : Int)] rfl rfl (World.news_of_block (heap_alloc_new _ _)) (by intro u hu; simp at hu; subst hu; rfl) (by decide) (by unfold maxLen; omega) (by omega) (by simp; omega) _ rfl ?_; intro g1 c1 w2 hown2 hg2 _ _; have Hown2 := hide hown2; have HO2 := hide ((Hrow.out.drew.alloc _).of_block (hg2.block w.heap.size (by simp; omega) (fun e => by have := (Hown.out.lt w.heap.size e.symm).2; omega))); have HB2 := hide (Below.grown (((hbel.mono HB.out).drew).alloc hbs _) hg2 (by simp; omega) (fun kk hkk => (Hown.out.lt kk hkk).1)); have hs2 : base ≤ w2.heap.size := Nat.le_trans (by simp; omega) hg2.size; clear hown2 hg2)
        | (refine step_append_lies _ rfl (.tmp 30) (.tmp 32) 22 rfl base 5 i0 (.int .u8 0) 1 1 Try.underlying22 Hi.out Hz0.out Hz1.out Hz2.out rfl (by decide) (.slice (some ⟨g1, 0, none⟩) (k + 1) c1) (k + 1) _ rfl Hown2.out ⟨w.heap.size, r, none⟩ (8 - r) (8 - r) (octV ((List.range (8 - r)).map fun i => N / 256 ^ (8 - r - 1 - i) % 256)) rfl (by simp [octV]) (news_row hr7 HO2.out) (by intro u hu; simp [octV] at hu; obtain ⟨_, _, rfl⟩ := hu; rfl) (by omega) (by unfold maxLen; omega) (by omega) hs2 _ rfl ?_; intro g3 c3 w3 hown3 hg3 _ _; have Hown3 := hide hown3; have HB3 := hide (Below.grown HB2.out hg3 hs2 (fun kk hkk => (Hown2.out.lt kk hkk).1)); clear hown3 hg3))
      go_wp2
      go_ret
      have e8 : 8 - r = octs 8 N := by have := Hjm.out; omega
      refine ⟨.slice (some ⟨g3, 0, none⟩) (k + 1 + (8 - r)) c3, rfl, ?_, HB3.out⟩
      have he : encLen N = (128 + (8 - r)) :: (List.range (8 - r)).map fun i => N / 256 ^ (8 - r - 1 - i) % 256 := by
        unfold encLen; rw [if_neg (by omega), e8]
      have hl : k + (encLen N).length = k + 1 + (8 - r) := by rw [he]; simp; omega
      rw [hl, he]
      have := Hown3.out
      simpa [octV] using this
    · have hjm : j < octs 8 N := by
        rcases Nat.lt_or_ge j (octs 8 N) with h | h
        · exact h
        · exact absurd ((Hst.out j).2 h) hz
      obtain ⟨r', rfl⟩ : ∃ r', r = r' + 1 := ⟨r - 1, by omega⟩
      obtain ⟨M, hM⟩ : ∃ M, M = N / 256 ^ j := ⟨_, rfl⟩
      have hMb : M < 9223372036854775808 := by rw [hM]; exact Nat.lt_of_le_of_lt (Nat.div_le_self _ _) hN'
      rw [← hM] at hz ⊢
      have hc := hrow.cell (i := r') (by omega)
      have hf := hrow.frozen r'
      have hr8 : (r' : Int) < 8 := by omega
      have HM := hide hM
      have Hrow := hide hrow
      clear hM hrow
      have hM0 : 0 < M := by omega
      go_wp2
      refine ⟨⟨j + 1, r', by omega, by omega, ?_, rfl, by simp; omega, (Hrow.out.set r' _).congr (fun p hp => ?_), hbel.setCell (Nat.le_refl _) _⟩, by simp [intOf]⟩
      · have : N / 256 ^ (j + 1) = M / 256 := by rw [HM.out, Nat.pow_succ, Nat.div_div_eq_div_mul]
        rw [this]; go_num
      · by_cases e : p = r'
        · subst e
          have e7 : 7 - p = j := by omega
          rw [if_pos rfl, if_pos (Nat.le_refl _), e7, ← HM.out]
          go_num
        · rw [if_neg e]
          by_cases h : r' + 1 ≤ p
          · rw [if_pos h, if_pos (by omega)]
          · rw [if_neg h, if_neg (by omega)]
end Go.Proofs.Qxb6002380a
