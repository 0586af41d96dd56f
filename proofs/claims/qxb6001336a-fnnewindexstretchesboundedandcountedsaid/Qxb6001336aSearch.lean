import Derived.Test.Qxb6001336aLeaves2
import Derived.Deep.DeepCutAuto
namespace Go.Proofs.Qxb6001336a
open Go.RowKit

theorem hide {p : Prop} (h : p) : Hid p := h
theorem ret_int {k : IntKind} {a b : Int} (h : a = b) : Ending.returned (.int k a) = .returned (.int k b) := by rw [h]

/-- THE CELLS OF AN INDEX that lies at ⟨b, o⟩: its first day f, its n sessions z, its shift sh, its m counts. -/
structure IdxCells (w : World) (b o : Nat) (f : Int) (sb so n cap sh stb m mc : Nat) (ca : Option Addr) (cl cc : Nat) (cr : Option Addr) (rc : Nat) (z : Nat → Int) : Prop where
  c0 : w.cell? ⟨b, o, none⟩ = some (.int .i32 f)
  c1 : w.cell? ⟨b, o + 1, none⟩ = some (.slice (some ⟨sb, so, none⟩) n cap)
  c2 : w.cell? ⟨b, o + 2, none⟩ = some (.int .u64 sh)
  c3 : w.cell? ⟨b, o + 3, none⟩ = some (.slice (some ⟨stb, 0, none⟩) m mc)
  c4 : w.cell? ⟨b, o + 4, none⟩ = some (.slice ca cl cc)
  c5 : w.cell? ⟨b, o + 5, none⟩ = some (.slice cr cl rc)
  sess : ∀ i, i < n → w.cell? ⟨sb, so + i, none⟩ = some (.int .i32 (z i))
  starts : ∀ i, i < m → w.cell? ⟨stb, i, none⟩ = some (.int .i32 (cnt z (f + i * 2 ^ sh) n))

theorem Below.some {w w' : World} (hb : Below w.heap.size w w') {a : Addr} {v : Value} (h : w.cell? a = some v) : w'.cell? a = some v :=
  (hb.cell (World.block_lt_of_cell? w a h)).trans h

theorem IdxCells.below {w w' : World} {b o : Nat} {f : Int} {sb so n cap sh stb m mc : Nat} {ca : Option Addr} {cl cc : Nat} {cr : Option Addr} {rc : Nat} {z : Nat → Int}
    (h : IdxCells w b o f sb so n cap sh stb m mc ca cl cc cr rc z) (hb : Below w.heap.size w w') : IdxCells w' b o f sb so n cap sh stb m mc ca cl cc cr rc z :=
  ⟨Below.some hb h.c0, Below.some hb h.c1, Below.some hb h.c2, Below.some hb h.c3, Below.some hb h.c4, Below.some hb h.c5, fun i hi => Below.some hb (h.sess i hi), fun i hi => Below.some hb (h.starts i hi)⟩

/-- What a call of search or before answers, and does to the world. -/
def CntP (z : Nat → Int) (n : Nat) (d : Int) (w : World) (e : Ending) (w' : World) : Prop := e = .returned (.int .i64 (cnt z d n)) ∧ Below w.heap.size w w'

/-- The crowded stretches of an index: each has an index of its own, which 'before' answers for rightly, in whatever later world. -/
def CrowdOK (w : World) (f : Int) (n sh : Nat) (ca : Option Addr) (cl : Nat) (cr : Option Addr) (z : Nat → Int) (d : Int) : Prop :=
  cl = 0 ∨ ∃ cab crb : Nat, ∃ ks : Nat → Nat, ca = some ⟨cab, 0, none⟩ ∧ cr = some ⟨crb, 0, none⟩ ∧ (∀ i, i < cl → w.cell? ⟨cab, i, none⟩ = some (.int .i64 (ks i))) ∧
    (∀ i, i < cl → (w.cell? ⟨crb, i * 6, none⟩).isSome) ∧
    ∀ i, i < cl → ∀ w1, Below w.heap.size w w1 → Calls Try.prog 23 #[.pointer (some ⟨crb, i * 6, none⟩), .agg #[.int .i32 d]] w1
      (CntP (fun j => z (cnt z (f + ks i * 2 ^ sh) n + j)) (cnt z (f + (ks i + 1 : Nat) * 2 ^ sh) n - cnt z (f + ks i * 2 ^ sh) n) d w1)

set_option maxRecDepth 100000 in
set_option maxHeartbeats 2000000 in
theorem search_any {w : World} {b o : Nat} {f : Int} {sb so n cap sh stb m mc : Nat} {ca : Option Addr} {cl cc : Nat} {cr : Option Addr} {rc : Nat} {z : Nat → Int} (d : Int)
    (h : IdxCells w b o f sb so n cap sh stb m mc ca cl cc cr rc z) (hcr : CrowdOK w f n sh ca cl cr z d) (hasc : Asc z n) (hfirst : ∀ i, i < n → f ≤ z i)
    (hn : n ≤ 65536) (hm : 1 ≤ m) (hm' : m ≤ 1000000) (hcl : cl ≤ 1000000) (hsh : sh ≤ 62) (hend : cnt z (f + (m - 1 : Nat) * 2 ^ sh) n = n)
    (hd : -300000000 ≤ d) (hd' : d ≤ 300000000) (hf : -300000000 ≤ f) (hf' : f ≤ 300000000) :
    Calls Try.prog 22 #[.pointer (some ⟨b, o, none⟩), .agg #[.int .i32 d]] w (CntP z n d w) := by
  have H := h
  have HH : Hid (IdxCells w b o f sb so n cap sh stb m mc ca cl cc cr rc z) := h
  obtain ⟨c0, c1, c2, c3, c4, c5, sess, starts⟩ := h
  clear c1 c2 c3 c4 c5 sess starts H
  have Hend : Hid (cnt z (f + (m - 1 : Nat) * 2 ^ sh) n = n) := hend
  have Hcr : Hid (CrowdOK w f n sh ca cl cr z d) := hcr
  have Hfirst : Hid (∀ i, i < n → f ≤ z i) := hfirst
  clear hend hcr hfirst
  have hbw := World.block_lt_of_cell? w _ c0
  simp only [] at hbw
  go_enter Try.func22, Try.ntmps22
  go_wp2
  go_cut [5] (fun k wr => k = .int .i64 (d - f) ∧ w.heap.size < wr.heap.size ∧ Below w.heap.size w wr ∧ wr.cell? ⟨w.heap.size, 0, none⟩ = some (.int .i32 d))
  case first =>
    go_region_held3 (fun w' => w'.cell? ⟨b, o, none⟩ = some (.int .i32 f) ∧ w'.cell? ⟨w.heap.size, 0, none⟩ = some (.int .i32 d)) (exact ⟨Below.some (w := w) (by go_grown) c0, Below.some (w := w.alloc (.cells #[.int .i32 d] 26)) (by go_grown) (by simp)⟩)
      (first | (go_at_call 24; refine (sub_any d f _ hd hd' hf hf').mono ?_; rintro e w' ⟨rfl, rfl⟩))
    go_wp2
    go_meet
    case rel =>
      exact ⟨rfl, by simp; omega, by go_grown, Below.some (w := w.alloc (.cells #[.int .i32 d] 26)) (by go_grown) (by simp)⟩
  case rest =>
    obtain ⟨rfl, hsz, hbel, hdc⟩ := hcut
    have HW := HH.out.below hbel
    obtain ⟨w0, w1, w2, w3, w4, w5, sess, starts⟩ := HW
    have Hsess : Hid (∀ i, i < n → wc.cell? ⟨sb, so + i, none⟩ = some (.int .i32 (z i))) := sess
    have Hstarts : Hid (∀ i, i < m → wc.cell? ⟨stb, i, none⟩ = some (.int .i32 (cnt z (f + i * 2 ^ sh) n))) := starts
    clear sess starts
    have hmin : min sh 64 = sh := by omega
    by_cases hneg : d - f < 0
    · have Hz : Hid (cnt z d n = 0) := cnt_none (fun i hi => by have := Hfirst.out i hi; omega)
      go_wp2
      go_ret
      exact ⟨by rw [Hz.out]; rfl, hbel⟩
    obtain ⟨s, hs⟩ : ∃ s : Nat, (d - f) / 2 ^ sh = (s : Int) := Int.eq_ofNat_of_zero_le (Int.ediv_nonneg (by omega) (Int.le_of_lt (Int.pow_pos (by decide))))
    have Hst : Hid (f + s * 2 ^ sh ≤ d ∧ d < f + (s + 1 : Nat) * 2 ^ sh) := stretch hs
    by_cases hbig : m - 1 ≤ s
    · have Hz : Hid (cnt z d n = n) := by
        have h1 := cnt_mono z n (s := f + (m - 1 : Nat) * 2 ^ sh) (t := d) (by have := Hst.out.1; have := mul_pow_mono hbig sh; omega)
        have h2 := cnt_le z d n
        rw [Hend.out] at h1
        exact Nat.le_antisymm h2 h1
      go_wp2
      go_quiet (fail)
      go_wp2
      go_ret
      exact ⟨by rw [Hz.out]; rfl, below_drewN hbel _⟩
    · have hcs := Hstarts.out s (by omega)
      have hcs1 := Hstarts.out (s + 1) (by omega)
      have hL1 : cnt z (f + s * 2 ^ sh) n ≤ cnt z d n := cnt_mono z n Hst.out.1
      have hL2 : cnt z d n ≤ cnt z (f + (s + 1 : Nat) * 2 ^ sh) n := cnt_mono z n (Int.le_of_lt Hst.out.2)
      have hL3 : cnt z (f + (s + 1 : Nat) * 2 ^ sh) n ≤ n := cnt_le _ _ _
      obtain ⟨C, hC⟩ : ∃ C, C = cnt z d n := ⟨_, rfl⟩
      obtain ⟨L, hL⟩ : ∃ L, L = cnt z (f + s * 2 ^ sh) n := ⟨_, rfl⟩
      obtain ⟨U, hU⟩ : ∃ U, U = cnt z (f + (s + 1 : Nat) * 2 ^ sh) n := ⟨_, rfl⟩
      rw [← hL] at hcs hL1
      rw [← hU] at hcs1 hL2 hL3
      rw [← hC] at hL1 hL2
      have HC : Hid (C = cnt z d n) := hC
      have HL : Hid (L = cnt z (f + s * 2 ^ sh) n) := hL
      have HU : Hid (U = cnt z (f + (s + 1 : Nat) * 2 ^ sh) n) := hU
      clear hC hL hU
      go_wp2
      go_quiet (fail)
      go_wp2
      go_quiet (fail)
      go_upto_if 67 with (fail)
      go_cut [9] (fun _ wr => ∃ q, wr = wc.drewN q)
      case first =>
        by_cases hc2 : (2 : Int) < (U : Int) - (L : Int)
        · rcases Hcr.out with hcl0 | ⟨cab, crb, ks, rfl, rfl, hks, hsome, hcalls⟩
          · subst hcl0
            go_wp2
            go_quiet (fail)
            go_wp2
            go_loop [9, 10] (fun i j => i = .int .i64 0 ∧ j = .int .i64 0) (fun _ _ => 0)
            case atStart => exact ⟨rfl, rfl⟩
            case round =>
              obtain ⟨rfl, rfl⟩ := hrel
              go_wp2
              go_meet
              case rel => exact ⟨_, rfl⟩
          · have Hks : Hid (∀ i, i < cl → wc.cell? ⟨cab, i, none⟩ = some (.int .i64 (ks i))) := fun i hi => Below.some hbel (hks i hi)
            have Hsome := hide hsome
            have Hcalls := hide hcalls
            clear hks hsome hcalls
            go_wp2
            go_quiet (fail)
            go_wp2
            go_loop [9, 10] (fun i j => ∃ x y : Nat, x ≤ y ∧ y ≤ cl ∧ i = .int .i64 x ∧ j = .int .i64 y) (fun i j => (intOf j).toNat - (intOf i).toNat)
            case atStart => exact ⟨0, cl, Nat.zero_le _, Nat.le_refl _, rfl, rfl⟩
            case round =>
              obtain ⟨x, y, hxy, hy, rfl, rfl⟩ := hrel
              by_cases hlt : x < y
              · have hcell := Hks.out ((x + y) / 2) (by omega)
                by_cases hkl : ks ((x + y) / 2) < s
                · go_wp2
                  exact ⟨⟨(x + y) / 2 + 1, y, by omega, hy, by omega, rfl⟩, by simp [intOf]; omega⟩
                · go_wp2
                  exact ⟨⟨x, (x + y) / 2, by omega, by omega, rfl, by omega⟩, by simp [intOf]; omega⟩
              · obtain rfl : x = y := by omega
                by_cases hxc : x < cl
                · have hcell := Hks.out x hxc
                  by_cases hkx : ks x = s
                  · have hkx' : ((ks x : Int) == (s : Int)) = true := by simp [hkx]
                    obtain ⟨D, hD⟩ : ∃ D, C = L + D := ⟨C - L, by omega⟩
                    have Hc : Hid (∀ w1, Below w.heap.size w w1 → Calls Try.prog 23 #[.pointer (some ⟨crb, x * 6, none⟩), .agg #[.int .i32 d]] w1 (fun e w' => e = .returned (.int .i64 (D : Nat)) ∧ Below w1.heap.size w1 w')) := by
                      intro w1 hw1
                      refine (Hcalls.out x hxc w1 hw1).mono ?_
                      rintro e w' ⟨he, hb'⟩
                      refine ⟨?_, hb'⟩
                      rw [he, hkx, ← HL.out, ← HU.out]
                      have hsub := cnt_sub (lo := L) (hi := U) (t := d) hasc (by rw [← HC.out]; exact hL1) (by rw [← HC.out]; exact hL2) hL3
                      rw [← HC.out, hD] at hsub
                      rw [Nat.add_left_cancel hsub]
                    have hDb : D ≤ 65536 := by omega
                    have hwr : IntKind.i64.wrap ((L : Int) + (D : Int)) = (L : Int) + (D : Int) := by rw [IntKind.wrap_i64]; omega
                    have HD := hide hD
                    clear hD hkx
                    go_wp2
                    go_region_held3 (fun w' => w'.cell? ⟨b, o + 5, none⟩ = some (.slice (some ⟨crb, 0, none⟩) cl rc) ∧ w'.cell? ⟨w.heap.size, 0, none⟩ = some (.int .i32 d))
                      (first | exact ⟨w5, hdc⟩ | exact ⟨Below.some hbc w5, Below.some hbc hdc⟩)
                      (first | (go_at_call 23; refine (Hc.out _ (by exact below_drewN hbel _)).mono ?_; rintro e w' ⟨rfl, hbc⟩))
                    go_wp2
                    go_ret
                    exact ⟨by rw [← HC.out, HD.out]; exact ret_int (by omega), (below_drewN hbel _).trans (hbc.mono (by simp; omega))⟩
                  · have hkx' : ((ks x : Int) == (s : Int)) = false := by simp; omega
                    go_wp2
                    go_meet
                    case rel => exact ⟨_, rfl⟩
                · go_wp2
                  go_meet
                  case rel => exact ⟨_, rfl⟩
        · go_wp2
          go_meet
          case rel => exact ⟨_, rfl⟩
      case rest =>
        obtain ⟨q, rfl⟩ := hcut
        go_wp2
        go_loopw [7, 8] (fun lo hi wr => ∃ x y : Nat, lo = .int .i64 x ∧ hi = .int .i64 y ∧ x ≤ C ∧ C ≤ y ∧ y ≤ n ∧ w.heap.size < wr.heap.size ∧ Below w.heap.size w wr ∧ wr.cell? ⟨w.heap.size, 0, none⟩ = some (.int .i32 d)) (fun lo hi _ => (intOf hi).toNat - (intOf lo).toNat)
        case atStart => exact ⟨L, U, rfl, rfl, hL1, hL2, hL3, hsz, below_drewN hbel _, hdc⟩
        case round =>
          obtain ⟨x, y, rfl, rfl, hx, hy, hyn, hszr, hbr, hdr⟩ := hrel
          have r1 := Below.some hbr HH.out.c1
          by_cases hlt : x < y
          · obtain ⟨M, hM⟩ : ∃ M : Nat, ((x : Int) + (y : Int)) / 2 = (M : Int) := ⟨(x + y) / 2, by omega⟩
            have hM1 : x ≤ M := by omega
            have hM2 : M < y := by omega
            have hM3 : (M : Int) < (n : Int) := by omega
            have r2 := Below.some hbr (HH.out.sess M (by omega))
            have Hiff : Hid (z M < d ↔ M < C) := by
              have := cnt_iff hasc d (i := M) (by omega)
              rw [← HC.out] at this
              exact this
            go_wp2
            go_region_held3 (fun w' => w'.cell? ⟨b, o + 1, none⟩ = some (.slice (some ⟨sb, so, none⟩) n cap) ∧ w'.cell? ⟨sb, so + M, none⟩ = some (.int .i32 (z M)) ∧ w'.cell? ⟨w.heap.size, 0, none⟩ = some (.int .i32 d))
              (exact ⟨Below.some (w := wr) (by go_grown) r1, Below.some (w := wr) (by go_grown) r2, Below.some (w := wr) (by go_grown) hdr⟩)
              (first | (go_at_call 25; refine (before_date _ _ _).mono ?_; rintro e w' ⟨rfl, rfl⟩))
            by_cases hz : z M < d
            · have hm := Hiff.out.1 hz
              go_wp2
              exact ⟨⟨M + 1, y, by go_num, rfl, by omega, hy, hyn, by simp; omega, hbr.trans (by go_grown), Below.some (w := wr) (by go_grown) hdr⟩, by simp [intOf]; omega⟩
            · have hm : C ≤ M := by have := Hiff.out; omega
              go_wp2
              exact ⟨⟨x, M, rfl, by go_num, hx, hm, by omega, by simp; omega, hbr.trans (by go_grown), Below.some (w := wr) (by go_grown) hdr⟩, by simp [intOf]; omega⟩
          · have e1 : x = C := by omega
            go_wp2
            go_ret
            exact ⟨by rw [← HC.out, e1]; rfl, hbr⟩
end Go.Proofs.Qxb6001336a
