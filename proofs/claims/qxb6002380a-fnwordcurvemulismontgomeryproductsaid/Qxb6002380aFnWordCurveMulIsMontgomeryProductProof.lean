/-
  PROOF OF 'Rows.FnWordCurveMulIsMontgomeryProductSaid': the frame is the guide's own (proof-skeleton.mjs); the walk is Qxb6002380aLaw8.lean's.
-/
import Derived.Test.Qxb6002380aRows
import Derived.Test.Qxb6002380aLaw8
import Derived.WalkKit
import Derived.ProofKit
import Derived.OpenShut
import Derived.ShutString
import Derived.ChangeOld
import Derived.Below
import Derived.Lib.LaidU8
namespace Go.Proofs.Qxb6002380a.fnWordCurveMulIsMontgomeryProduct
open Go.ChangeShapes Go.WideShapes Go.ChangeAt Go.RowKit
open Go.ChangeMaps (open_string shut_string)
set_option linter.unusedVariables false      -- a walk need not use every 'w<i>' (that an integer argument fits its kind)

theorem own : ownKnob Try.prog.godebug = none := by kernel_rfl

theorem laidOut : laidOutB Try.prog = true := by kernel_rfl
theorem und43 : Try.prog.underlying 43 = some (.array 9 31) := by kernel_rfl
theorem und31 : Try.prog.underlying 31 = some (.int .u64) := by kernel_rfl
theorem cells31 : Try.prog.cellsOf 31 = 1 := by kernel_rfl
theorem cells43 : Try.prog.cellsOf 43 = 9 := by kernel_rfl

set_option maxRecDepth 100000 in
/-- An array of nine words, opened. -/
theorem open9 {H : Type} {enc : TypeId × Value → H} {W : World} {r : Reach} {b0 base : Nat} {sp : Nat → Bool} {held : Bool} {v : Value} {d : DataW H} {p : List MemPlace} (hv : Value.okWide Try.prog W r b0 43 v) (h : DataW.Trod enc Try.prog W base sp held 43 v d p) :
    ∃ z : Nat → Nat, v = .agg (nine z) ∧ ∀ k, z k < Qxb6002380a.W := by
  simp only [Value.okWide, und43] at hv
  obtain ⟨cs, rfl, hsz, _⟩ := hv
  rw [cells43] at hsz
  obtain ⟨fuel, hf⟩ := h
  obtain ⟨ds, rfl⟩ : ∃ ds, d = .agg ds := by
    cases fuel with
    | zero => simp [DataW.trod] at hf
    | succ fuel =>
      simp only [DataW.trod, und43] at hf
      split at hf
      · obtain ⟨xs, hm, hx⟩ := Option.map_eq_some_iff.1 hf
        exact ⟨_, (congrArg Prod.fst hx).symm⟩
      · cases hf
  have key : ∀ i, i < 9 → ∃ a : Nat, a < Qxb6002380a.W ∧ cs[i]? = some (.int .u64 (a : Nat)) := by
    intro i hi
    obtain ⟨fuel', d', q, _, he⟩ := Lib.array_elem und43 hf i hi
    rw [cells31, Nat.mul_one] at he
    obtain ⟨a, ea, _, wa⟩ := DataW.trod_int und31 he
    have hb := bounds_u64 wa
    obtain ⟨n, rfl⟩ := Int.eq_ofNat_of_zero_le hb.1
    refine ⟨n, by unfold Qxb6002380a.W; omega, ?_⟩
    have h2 := congrArg (fun l : List Value => l[0]?) ea
    simp only [Value.cells] at h2
    simpa [List.getElem?_take, List.getElem?_drop] using h2
  let z : Nat → Nat := fun i => match cs[i]? with
    | some (.int _ a) => if i < 9 then a.toNat else 0
    | _ => 0
  have hz : ∀ i, i < 9 → cs[i]? = some (.int .u64 (z i : Nat)) := by
    intro i hi
    obtain ⟨a, _, ha⟩ := key i hi
    have e : z i = a := by simp [z, ha, hi]
    rw [ha, e]
  refine ⟨z, by rw [arr9 hsz hz], fun k => ?_⟩
  rcases Nat.lt_or_ge k 9 with hk | hk
  · obtain ⟨a, ha9, ha⟩ := key k hk
    have e : z k = a := by simp [z, ha, hk]
    rw [e]; exact ha9
  · have e : z k = 0 := by
      have h : cs[k]? = none := Array.getElem?_eq_none (by omega)
      simp [z, h]
    rw [e]; exact W_pos

/-! ### THE ROW's STEP: WRITTEN OUT: LEAVE IT -/
set_option maxRecDepth 100000 in
theorem lifted (os : Os) (started : os.Started) (H : Type) (enc : TypeId × Value → H) :
    ReturnsInHanded {} Try.checked os 8 .any (Rows.fnWordCurveMulIsMontgomeryProductSpec.pre6 enc Try.prog Try.f8 Rows.fnWordCurveMulIsMontgomeryProductRow.domain false) (Rows.fnWordCurveMulIsMontgomeryProductSpec.post enc Try.prog Try.f8 false true false false) := by
  refine returnsInHanded_of_change (C := Try.checked) own started (by kernel_rfl) Try.func8
    (ChangeSpec.witness6 (enc := enc) (C := Try.checked) false ⟨#[], #[.agg #[.int .u64 0, .int .u64 0, .int .u64 0, .int .u64 0, .int .u64 0, .int .u64 0, .int .u64 0, .int .u64 0, .int .u64 0], .agg #[.int .u64 0, .int .u64 0, .int .u64 0, .int .u64 0, .int .u64 0, .int .u64 0, .int .u64 0, .int .u64 0, .int .u64 0], .agg #[.int .u64 0, .int .u64 0, .int .u64 0, .int .u64 0, .int .u64 0, .int .u64 0, .int .u64 0, .int .u64 0, .int .u64 0]], []⟩ 8 (by kernel_rfl) (by kernel_rfl) (by kernel_rfl) (by kernel_rfl)) ?_
  intro W base args ds gs before hval0 hW hcnd _
  have hval : ∀ (j : Nat) t v, Try.f8.params[j]? = some t → args[j]? = some v → Value.okWide Try.prog W .any base t v := hval0
  have hW' := hW
  obtain ⟨p, q, hA0, hV, rfl, hfz, hnd⟩ := hW
  have hA : DataW.TrodAll enc Try.prog W 0 (fun _ => true) true Try.f8.params.toList args.toList ds p := hA0
  rw [Try.params8] at hA hval
  obtain ⟨v0, vs0, d0, ds0, p0, q0, hargs, rfl, rfl, h0, r0⟩ := trodAll_cons hA
  obtain ⟨v1, vs1, d1, ds1, p1, q1, rfl, rfl, rfl, h1, r1⟩ := trodAll_cons r0
  obtain ⟨v2, vs2, d2, ds2, p2, q2, rfl, rfl, rfl, h2, r2⟩ := trodAll_cons r1
  obtain ⟨rfl, rfl, rfl⟩ := trodAll_nil r2
  obtain rfl : args = #[v0, v1, v2] := by cases args; simp_all
  obtain ⟨rfl, rfl⟩ := trodVars_none hV
  have k0 := h0
  have k1 := h1
  have k2 := h2
  have lt0 : ∀ x ∈ p0, x.block < W.heap.size := by obtain ⟨m, hm⟩ := k0; exact DataW.trod_lt m _ _ _ hm
  have lt1 : ∀ x ∈ p1, x.block < W.heap.size := by obtain ⟨m, hm⟩ := k1; exact DataW.trod_lt m _ _ _ hm
  have lt2 : ∀ x ∈ p2, x.block < W.heap.size := by obtain ⟨m, hm⟩ := k2; exact DataW.trod_lt m _ _ _ hm
  obtain ⟨z0, rfl, b0⟩ := open9 (hval 0 43 v0 rfl rfl) h0
  obtain ⟨z1, rfl, b1⟩ := open9 (hval 1 43 v1 rfl rfl) h1
  obtain ⟨z2, rfl, b2⟩ := open9 (hval 2 43 v2 rfl rfl) h2
  clear hA0 hval0
  refine (law8 z0 z1 z2 b0 b1 b2 W).mono fun e W' ⟨he, bel⟩ => ?_
  subst he
  exact ⟨_, rfl, _, _, _, [], _, [], hW', trodAll_mk1 (shut_bool Try.underlying4 _), (trodAll_cons_mk (Below.trod laidOut (by kernel_rfl) (of_decide_eq_true (by kernel_rfl)) k0 bel lt0) (trodAll_cons_mk (Below.trod laidOut (by kernel_rfl) (of_decide_eq_true (by kernel_rfl)) k1 bel lt1) (trodAll_cons_mk (Below.trod laidOut (by kernel_rfl) (of_decide_eq_true (by kernel_rfl)) k2 bel lt2) trodAll_mk0))), rfl, bel.frame _, fun h => by cases h⟩

theorem over : Rows.fnWordCurveMulIsMontgomeryProductRow.holds Try.pinned (OpenSpec.ofChange Rows.fnWordCurveMulIsMontgomeryProductSpec) :=
  OpenClaim.holds_of_wide 8 Try.f8 rfl rfl rfl rfl rfl rfl rfl ⟨rfl, rfl, rfl, rfl, rfl⟩ rfl rfl rfl rfl rfl (by kernel_rfl) Try.func8 (by kernel_rfl)
    (of_decide_eq_true (by kernel_rfl)) (by unfold Func.isWrapper; first | (rw [if_pos (by decide +kernel)]; kernel_rfl) | (rw [if_neg (by decide +kernel)]; exact ⟨rfl, rfl⟩))
    (fun os started H enc _ => lifted os started H enc)

/-- ████ THE STATEMENT ████ -/
theorem proved : Rows.FnWordCurveMulIsMontgomeryProductSaid :=
  over
end Go.Proofs.Qxb6002380a.fnWordCurveMulIsMontgomeryProduct
