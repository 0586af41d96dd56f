import Derived.Test.Qxb6002380aXor2
namespace Go.Proofs.Qxb6002380a
open Go.RowKit

set_option maxRecDepth 100000 in
set_option maxHeartbeats 2000000 in
/-- ZZXorShifted: a fresh slice of the words that xorShifted makes. -/
theorem zzxor (b off n cap t : Nat) (s : Int) (z : Nat → Nat) (w : World) (hs1 : -63 ≤ s) (hs2 : s < 64 * (n : Int)) (hn0 : 0 < n) (hn : n ≤ 4096) (ht : t < 18446744073709551616) (hz : ∀ i, i < n → z i < 18446744073709551616) (hfit : Fit t s n)
    (hlt : b < w.heap.size) (hc : ∀ i, i < n → w.cell? ⟨b, off + i, none⟩ = some (.int .u64 (z i : Nat))) :
    Calls Try.prog 18 #[.slice (some ⟨b, off, none⟩) n cap, .int .u64 t, .int .i64 s] w fun e w' => ∃ g, e = .returned (.slice (some ⟨g, 0, none⟩) n n) ∧ w.heap.size ≤ g ∧ w'.rowIs g 35 n (fun i => .int .u64 (xs z t s i : Nat)) ∧ Below w.heap.size w w' := by
  have hmk := run_make_row' 57 58 (.int .u64 0) 8 Try.underlying57 Try.info58 rfl .i64 .i64 n (by omega) (by omega)
  have hmk2 := run_make_row' 34 35 (.int .u64 0) 8 Try.underlying34 Try.info35 rfl .i64 .i64 n (by omega) (by omega)
  have Hc := hide hc
  have Hfit := hide hfit
  have Hz := hide hz
  clear hc hfit hz
  go_enter Try.func18, Try.ntmps18
  go_wp2
  go_loopw [16] (fun i wr => ∃ k : Nat, k ≤ n ∧ i = .int .i64 k ∧ w.heap.size < wr.heap.size ∧ wr.rowIs w.heap.size 58 n (fun i => .int .u64 ((if i < k then z i else 0 : Nat) : Int)) ∧ Below w.heap.size w wr) (fun i _ => n - (intOf i).toNat)
  case atStart => exact ⟨0, Nat.zero_le _, rfl, by simp, (World.rowIs_made w _ n 58).congr (fun i hi => by simp), (Below.refl _ _).alloc (Nat.le_refl _) _⟩
  case round =>
    obtain ⟨k, hk, rfl, hsz, hrow, hbel⟩ := hrel
    by_cases hkn : k < n
    · have hck : wr.cell? ⟨b, off + k, none⟩ = some (.int .u64 (z k : Nat)) := (hbel.cell hlt).trans (Hc.out k hkn)
      have hcs := hrow.cell hkn
      have hfz := hrow.frozen k
      have Hrow := hide hrow
      clear hrow
      go_wp2
      go_roundw
      case rel =>
        refine ⟨k + 1, by omega, by go_num, by simp; omega, (Hrow.out.set k _).congr (fun i hi => ?_), hbel.setCell (Nat.le_refl _) _⟩
        by_cases e : i = k
        · subst e; simp
        · simp only [e, if_false]
          by_cases h : i < k
          · rw [if_pos h, if_pos (by omega)]
          · rw [if_neg h, if_neg (by omega)]
      case measure => simp [intOf]; omega
    · have e : k = n := by omega
      subst e
      have hrow' : wr.rowIs w.heap.size 58 k (fun i => .int .u64 (z i : Nat)) := hrow.congr (fun i hi => by simp [hi])
      have Hrow := hide hrow'
      clear hrow hrow'
      go_wp2_with (go_at_call 33; refine (xor33 w.heap.size k t s z _ hs1 hs2 hn0 hn ht Hz.out Hfit.out Hrow.out).mono ?_; rintro e w2 ⟨rfl, hr2, hb2⟩; have Hr2 := hide hr2; have HB := hide (hbel.trans hb2); have hsz2 : w.heap.size < w2.heap.size := Nat.lt_of_lt_of_le hsz hb2.size; clear hr2 hb2)
      go_loopw [36] (fun i wr => ∃ j : Nat, j ≤ k ∧ i = .int .i64 j ∧ w2.heap.size < wr.heap.size ∧ wr.rowIs w.heap.size 58 k (fun i => .int .u64 (xs z t s i : Nat)) ∧ wr.rowIs w2.heap.size 35 k (fun i => .int .u64 ((if i < j then xs z t s i else 0 : Nat) : Int)) ∧ Below w.heap.size w wr) (fun i _ => k - (intOf i).toNat)
      case atStart => exact ⟨0, Nat.zero_le _, rfl, by simp, Hr2.out.alloc _, (World.rowIs_made w2 _ k 35).congr (fun i hi => by simp), HB.out.alloc HB.out.size _⟩
      case round =>
        clear hbel Hrow hsz
        obtain ⟨j, hj, rfl, hsz, hrow, hrow2, hbel⟩ := hrel
        by_cases hjn : j < k
        · have hck := hrow.cell hjn
          have hcs := hrow2.cell hjn
          have hfz := hrow2.frozen j
          have Hrow := hide hrow
          have Hrow2 := hide hrow2
          clear hrow hrow2
          go_wp2
          go_roundw
          case rel =>
            refine ⟨j + 1, by omega, by go_num, by simp; omega, Hrow.out.setOther (by show w.heap.size ≠ w2.heap.size; omega) _, (Hrow2.out.set j _).congr (fun i hi => ?_), hbel.setCell (by show w.heap.size ≤ w2.heap.size; omega) _⟩
            by_cases e : i = j
            · subst e; simp
            · simp only [e, if_false]
              by_cases h : i < j
              · rw [if_pos h, if_pos (by omega)]
              · rw [if_neg h, if_neg (by omega)]
          case measure => simp [intOf]; omega
        · have e : j = k := by omega
          subst e
          go_wp2
          go_ret
          exact ⟨_, rfl, by omega, hrow2.congr (fun i hi => by simp [hi]), hbel⟩
end Go.Proofs.Qxb6002380a
