import Derived.Test.Qxb6001336aSearch
namespace Go.Proofs.Qxb6001336a
open Go.RowKit

theorem CrowdOK.below {w w' : World} {f : Int} {n sh : Nat} {ca : Option Addr} {cl : Nat} {cr : Option Addr} {z : Nat → Int} {d : Int} (h : CrowdOK w f n sh ca cl cr z d) (hb : Below w.heap.size w w') : CrowdOK w' f n sh ca cl cr z d := by
  rcases h with h | ⟨cab, crb, ks, rfl, rfl, hks, hsome, hcalls⟩
  · exact Or.inl h
  · refine Or.inr ⟨cab, crb, ks, rfl, rfl, fun i hi => Below.some hb (hks i hi), fun i hi => ?_, fun i hi w1 hw1 => hcalls i hi w1 (hb.trans (hw1.mono hb.size))⟩
    obtain ⟨u, hu⟩ := Option.isSome_iff_exists.1 (hsome i hi)
    rw [Below.some hb hu]; rfl

set_option maxRecDepth 100000 in
set_option maxHeartbeats 2000000 in
theorem before_any {w : World} {b o : Nat} {f : Int} {sb so n cap sh stb m mc : Nat} {ca : Option Addr} {cl cc : Nat} {cr : Option Addr} {rc : Nat} {z : Nat → Int} (d : Int)
    (h : IdxCells w b o f sb so n cap sh stb m mc ca cl cc cr rc z) (hcr : CrowdOK w f n sh ca cl cr z d) (hasc : Asc z n) (hfirst : ∀ i, i < n → f ≤ z i)
    (hn : n ≤ 65536) (hm : 1 ≤ m) (hm' : m ≤ 1000000) (hcl : cl ≤ 1000000) (hsh : sh ≤ 62) (hend : cnt z (f + (m - 1 : Nat) * 2 ^ sh) n = n)
    (hd : -300000000 ≤ d) (hd' : d ≤ 300000000) (hf : -300000000 ≤ f) (hf' : f ≤ 300000000) :
    Calls Try.prog 23 #[.pointer (some ⟨b, o, none⟩), .agg #[.int .i32 d]] w (CntP z n d w) := by
  have c0 := h.c0
  have HH := hide h
  have Hcr := hide hcr
  have Hfirst := hide hfirst
  have Hend := hide hend
  have Hasc := hide hasc
  clear h hcr hfirst hend hasc
  have hbw := World.block_lt_of_cell? w _ c0
  simp only [] at hbw
  go_enter Try.func23, Try.ntmps23
  go_wp2
  go_cut [5] (fun k wr => k = .int .i64 (d - f) ∧ w.heap.size < wr.heap.size ∧ Below w.heap.size w wr ∧ wr.cell? ⟨w.heap.size, 0, none⟩ = some (.int .i32 d))
  case first =>
    go_region_held3 (fun w' => w'.cell? ⟨b, o, none⟩ = some (.int .i32 f) ∧ w'.cell? ⟨w.heap.size, 0, none⟩ = some (.int .i32 d)) (exact ⟨Below.some (w := w) (by go_grown) c0, Below.some (w := w.alloc (.cells #[.int .i32 d] 26)) (by go_grown) (by simp)⟩)
      (first | (go_at_call 24; refine (sub_any d f _ hd hd' hf hf').mono ?_; rintro e w' ⟨rfl, rfl⟩))
    go_wp2
    go_meet
    case rel =>
      exact ⟨rfl, by simp; omega, by go_grown, Below.some (w := w.alloc (.cells #[.int .i32 d] 26)) (by go_grown) (by simp)⟩
  case rest =>
    obtain ⟨rfl, hsz, hbel, hdc⟩ := hcut
    have w2 := Below.some hbel HH.out.c2
    have w3 := Below.some hbel HH.out.c3
    have Hsearch : Hid (Calls Try.prog 22 #[.pointer (some ⟨b, o, none⟩), .agg #[.int .i32 d]] wc (CntP z n d wc)) :=
      search_any d (HH.out.below hbel) (Hcr.out.below hbel) Hasc.out Hfirst.out hn hm hm' hcl hsh Hend.out hd hd' hf hf'
    by_cases h0 : sh = 0
    · subst h0
      have w2' : wc.cell? ⟨b, o + 2, none⟩ = some (.int .u64 0) := w2
      clear w2
      by_cases hk : 0 ≤ d - f ∧ d - f < (m : Int) - 1
      · obtain ⟨hk1, hk2⟩ := hk
        obtain ⟨k, hkk⟩ : ∃ k : Nat, d - f = (k : Int) := Int.eq_ofNat_of_zero_le hk1
        have w6 := Below.some hbel (HH.out.starts k (by omega))
        have e : f + (k : Int) * 2 ^ 0 = d := by simp; omega
        rw [e] at w6
        have hl := cnt_le z d n
        go_wp2
        go_ret
        exact ⟨rfl, hbel⟩
      · have hwk : (m : Int) - 1 ≤ IntKind.u64.wrap (d - f) := by
          rw [IntKind.wrap_u64]
          omega
        go_wp2_with (go_at_call 22; refine Hsearch.out.mono ?_; rintro e w' ⟨rfl, hb'⟩)
        go_ret
        exact ⟨rfl, hbel.trans (hb'.mono (by omega))⟩
    · have h0' : ((sh : Int) == 0) = false := by simp; omega
      go_wp2_with (go_at_call 22; refine Hsearch.out.mono ?_; rintro e w' ⟨rfl, hb'⟩)
      go_ret
      exact ⟨rfl, hbel.trans (hb'.mono (by omega))⟩
end Go.Proofs.Qxb6001336a
