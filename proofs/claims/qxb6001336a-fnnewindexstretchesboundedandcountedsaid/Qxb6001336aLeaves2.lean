import Derived.Test.Qxb6001336aLeaves
import Derived.Deep.OwnRows
import Derived.Deep.RegionHeld3
import Derived.Deep.Draws
import Derived.WalkSmall
import Derived.Handy
namespace Go.Proofs.Qxb6001336a
open Go.RowKit

/-- What 'zzAscendingInBounds' answers: true only of days that are good; memory as it was. -/
def AscP (z : Nat → Int) (n : Nat) (w : World) (e : Ending) (w' : World) : Prop := ∃ r, e = .returned (.bool r) ∧ (r = true → Good z n) ∧ ∃ q, w' = w.drewN q

set_option maxHeartbeats 1000000 in
theorem asc_any (a : Option Addr) (n cap : Nat) (z : Nat → Int) (w : World) (hr : Row .i32 w a n z) (hn : n ≤ 65536) :
    Calls Try.prog 7 #[.slice a n cap] w (AscP z n w) := by
  rcases hr with rfl | ⟨b, off, rfl, hlt, hc⟩
  · go_enter Try.func7, Try.ntmps7
    go_wp2
    go_loop [3] (fun i => i = .int .i64 0) (fun _ => 0)
    case atStart => exact rfl
    case round =>
      obtain rfl := hrel
      go_wp2
      go_ret
      exact ⟨true, rfl, fun _ => ⟨fun i j _ h => by omega, fun i h => by omega⟩, 0, rfl⟩
  · go_enter Try.func7, Try.ntmps7
    go_wp2
    go_loopw [3] (fun i wr => ∃ k q : Nat, k ≤ n ∧ i = .int .i64 k ∧ wr = w.drewN q ∧ (∀ i, i + 1 < k → z i < z (i + 1)) ∧ (∀ i, i < k → -268435456 ≤ z i ∧ z i ≤ 268435456)) (fun i _ => n - (intOf i).toNat)
    case atStart => exact ⟨0, 0, Nat.zero_le _, rfl, rfl, fun i h => by omega, fun i h => by omega⟩
    case round =>
      obtain ⟨k, q, hk, rfl, rfl, h1, h2⟩ := hrel
      have H1 : Hid (∀ i, i + 1 < k → z i < z (i + 1)) := h1
      have H2 : Hid (∀ i, i < k → -268435456 ≤ z i ∧ z i ≤ 268435456) := h2
      clear h1 h2
      by_cases hkn : k < n
      · have hck := hc k hkn
        by_cases c1 : z k < -268435456
        · go_wp2
          go_ret
          exact ⟨false, rfl, by simp, by first | exact ⟨_, rfl⟩ | (simp only [World.drewN_drewN]; exact ⟨_, rfl⟩)⟩
        by_cases c2 : 268435456 < z k
        · go_wp2
          go_ret
          exact ⟨false, rfl, by simp, by first | exact ⟨_, rfl⟩ | (simp only [World.drewN_drewN]; exact ⟨_, rfl⟩)⟩
        by_cases k0 : 0 < k
        · obtain ⟨j, rfl⟩ : ∃ j, k = j + 1 := ⟨k - 1, by omega⟩
          have hcj := hc j (by omega)
          by_cases c3 : z (j + 1) ≤ z j
          · go_wp2
            go_quiet (fail)
            go_wp2
            go_ret
            exact ⟨false, rfl, by simp, by first | exact ⟨_, rfl⟩ | (simp only [World.drewN_drewN]; exact ⟨_, rfl⟩)⟩
          · go_wp2
            go_quiet (fail)
            go_wp2
            go_roundw
            case rel =>
              refine ⟨j + 1 + 1, q + nq, by omega, by go_num, by first | rfl | simp only [World.drewN_drewN], fun i hi => ?_, fun i hi => ?_⟩
              · rcases Nat.lt_or_ge (i + 1) (j + 1) with h | h
                · exact H1.out i h
                · have e : i = j := by omega
                  subst e; omega
              · rcases Nat.lt_or_ge i (j + 1) with h | h
                · exact H2.out i h
                · have e : i = j + 1 := by omega
                  subst e; omega
            case measure => simp [intOf]; omega
        · have e : k = 0 := by omega
          subst e
          have hd : decide ((0 : Int) < 0) = false := by simp
          rw [Nat.add_zero] at hck
          go_wp2
          go_quiet (fail)
          go_wp2
          go_roundw
          case rel =>
              refine ⟨1, q + nq, by omega, by go_num, by first | rfl | simp only [World.drewN_drewN], fun i hi => ?_, fun i hi => ?_⟩
              · omega
              · have e : i = 0 := by omega
                subst e; omega
          case measure => simp [intOf]; omega
      · have e : k = n := by omega
        subst e
        go_wp2
        go_ret
        exact ⟨true, rfl, fun _ => ⟨asc_of_step H1.out, H2.out⟩, _, rfl⟩

theorem Try.info26 : (Try.prog.info? 26).map (fun i => (i.zero, i.size, i.bytes)) = some (some (.agg #[.int .i32 0]), 1, 4) := by kernel_rfl
theorem Try.info21 : (Try.prog.info? 21).map (fun i => (i.zero, i.size, i.bytes)) = some (some (.int .i32 0), 1, 4) := by kernel_rfl

/-- 'make([]date.Date, n)'. -/
theorem make_dates (n : Nat) (hn : n ≤ 1000000) (w : World) : (Instr.makeSlice 27 (.int .i64 (n : Int)) (.int .i64 (n : Int))).run Try.prog w = .ok (.slice (some ⟨w.heap.size, 0, none⟩) n n) (w.alloc (.cells (madeCells #[.int .i32 0] n) 26)) := by
  obtain ⟨i, hi, hz0, hz1, hz2⟩ := info_parts Try.info26
  have hr := run_make (P := Try.prog) w 27 26 i _ Try.underlying27 hi hz0 .i64 .i64 n n (by omega) (Int.le_refl _) (by rw [hz2]; omega) (by omega)
  simp only [Int.toNat_natCast, hz1, Nat.mul_one] at hr
  exact hr

set_option maxHeartbeats 1000000 in
theorem dates_any (a : Option Addr) (n cap : Nat) (z : Nat → Int) (w : World) (hr : Row .i32 w a n z) (hn : n ≤ 65536) :
    Calls Try.prog 9 #[.slice a n cap] w fun e w' => ∃ sb, e = .returned (.slice (some ⟨sb, 0, none⟩) n n) ∧ w.heap.size ≤ sb ∧ w'.rowIs sb 26 n (fun i => .int .i32 (z i)) ∧ Below w.heap.size w w' := by
  rcases hr with rfl | ⟨b, off, rfl, hlt, hc⟩
  · have hmk := make_dates 0 (by omega)
    rw [Int.natCast_zero] at hmk
    go_enter Try.func9, Try.ntmps9
    go_wp2
    go_loop [4] (fun i => i = .int .i64 0) (fun _ => 0)
    case atStart => exact rfl
    case round =>
      obtain rfl := hrel
      go_wp2
      go_ret
      exact ⟨_, rfl, Nat.le_refl _, (World.rowIs_made w _ 0 26).congr (fun i hi => by omega), (Below.refl _ _).alloc (Nat.le_refl _) _⟩
  · have hmk := make_dates n (by omega)
    go_enter Try.func9, Try.ntmps9
    go_wp2
    go_loopw [4] (fun i wr => ∃ k : Nat, k ≤ n ∧ i = .int .i64 k ∧ w.heap.size < wr.heap.size ∧ wr.rowIs w.heap.size 26 n (fun i => .int .i32 (if i < k then z i else 0)) ∧ Below w.heap.size w wr) (fun i _ => n - (intOf i).toNat)
    case atStart => exact ⟨0, Nat.zero_le _, rfl, by simp, (World.rowIs_made w _ n 26).congr (fun i hi => by simp), (Below.refl _ _).alloc (Nat.le_refl _) _⟩
    case round =>
      obtain ⟨k, hk, rfl, hsz, hrow, hbel⟩ := hrel
      by_cases hkn : k < n
      · have hck : wr.cell? ⟨b, off + k, none⟩ = some (.int .i32 (z k)) := (hbel.cell hlt).trans (hc k hkn)
        have hcs := hrow.cell hkn
        have hfz := hrow.frozen k
        go_wp2_with (go_at_call 11; refine (fromdays_any _ _).mono ?_; rintro e w' ⟨rfl, rfl⟩)
        go_roundw
        case rel =>
          refine ⟨k + 1, by omega, by go_num, by simp; omega, ((hrow.set k _).alloc _).congr (fun i hi => ?_), (hbel.setCell (Nat.le_refl _) _).alloc (by simp; omega) _⟩
          by_cases e : i = k
          · subst e; simp
          · simp only [e, if_false]
            by_cases h : i < k
            · rw [if_pos h, if_pos (by omega)]
            · rw [if_neg h, if_neg (by omega)]
        case measure => simp [intOf]; omega
      · have e : k = n := by omega
        subst e
        go_wp2
        go_ret
        exact ⟨_, rfl, Nat.le_refl _, hrow.congr (fun i hi => by simp [hi]), hbel⟩
end Go.Proofs.Qxb6001336a
