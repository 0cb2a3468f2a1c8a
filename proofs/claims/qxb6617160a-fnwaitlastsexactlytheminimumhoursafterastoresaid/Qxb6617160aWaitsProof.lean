/-
  SEAT b6617160a: THE STATEMENT 'Rows.FnWaitLastsExactlyTheMinimumHoursAfterAStoreSaid' PROVED.
-/
import Derived.Test.Qxb6617160aOpen
import Derived.Test.Qxb6617160aWaitsWalk
namespace Go.Proofs.Qxb6617160a.fnWaitLastsExactlyTheMinimumHoursAfterAStore
open Go.ChangeShapes Go.WideShapes Go.ChangeAt Go.RowKit
set_option linter.unusedVariables false

/-! ### THE ROW's STEP: the guide's frame for a law over slices (proof-skeleton.mjs), turned to slices of slices -/
set_option maxRecDepth 100000 in
theorem lifted (os : Os) (started : os.Started) (H : Type) (enc : TypeId × Value → H) :
    ReturnsInHanded {} Try.checked os 6 .any (Rows.fnWaitLastsExactlyTheMinimumHoursAfterAStoreSpec.pre6 enc Try.prog Try.f6 Rows.fnWaitLastsExactlyTheMinimumHoursAfterAStoreRow.domain false) (Rows.fnWaitLastsExactlyTheMinimumHoursAfterAStoreSpec.post enc Try.prog Try.f6 false true false false) := by
  refine returnsInHanded_of_change (C := Try.checked) own started (by kernel_rfl) Try.func6
    (ChangeSpec.witness6 (enc := enc) (C := Try.checked) false ⟨#[], #[.int .i64 0, .int .i64 0, .slice none 0 0, .slice none 0 0, .slice none 0 0, .slice none 0 0, .int .i64 0], []⟩ 8 (by kernel_rfl) (by kernel_rfl) (by kernel_rfl) (by kernel_rfl)) ?_
  intro W base args ds gs before hval0 hW hcnd _
  have hval : ∀ (j : Nat) t v, Try.f6.params[j]? = some t → args[j]? = some v → Value.okWide Try.prog W .any base t v := hval0
  have hW' := hW
  obtain ⟨p, q, hA0, hV, rfl, hfz, hnd⟩ := hW
  have hA : DataW.TrodAll enc Try.prog W 0 (fun _ => true) true Try.f6.params.toList args.toList ds p := hA0
  rw [Try.params6] at hA hval
  obtain ⟨v0, vs0, d0, ds0, p0, q0, hargs, rfl, rfl, h0, r0⟩ := trodAll_cons hA
  obtain ⟨v1, vs1, d1, ds1, p1, q1, rfl, rfl, rfl, h1, r1⟩ := trodAll_cons r0
  obtain ⟨v2, vs2, d2, ds2, p2, q2, rfl, rfl, rfl, h2, r2⟩ := trodAll_cons r1
  obtain ⟨v3, vs3, d3, ds3, p3, q3, rfl, rfl, rfl, h3, r3⟩ := trodAll_cons r2
  obtain ⟨v4, vs4, d4, ds4, p4, q4, rfl, rfl, rfl, h4, r4⟩ := trodAll_cons r3
  obtain ⟨v5, vs5, d5, ds5, p5, q5, rfl, rfl, rfl, h5, r5⟩ := trodAll_cons r4
  obtain ⟨v6, vs6, d6, ds6, p6, q6, rfl, rfl, rfl, h6, r6⟩ := trodAll_cons r5
  obtain ⟨rfl, rfl, rfl⟩ := trodAll_nil r6
  obtain rfl : args = #[v0, v1, v2, v3, v4, v5, v6] := by cases args; simp_all
  obtain ⟨rfl, rfl⟩ := trodVars_none hV
  obtain ⟨a0, rfl, rfl, rfl, w0⟩ := open_int Try.underlying3 (hval 0 3 v0 rfl rfl) h0
  obtain ⟨a1, rfl, rfl, rfl, w1⟩ := open_int Try.underlying3 (hval 1 3 v1 rfl rfl) h1
  obtain ⟨a2, len2, cap2, rfl⟩ := okWide_slice Try.underlying22 (hval 2 22 v2 rfl rfl)
  have k2 := h2
  have lt2 : ∀ x ∈ p2, x.block < W.heap.size := by obtain ⟨m, hm⟩ := k2; exact DataW.trod_lt m _ _ _ hm
  obtain ⟨ib, io, I, hI, nI, wI⟩ : ∃ (xb xo : Nat) (Z : Nat → Int), RowV .i64 W a2 len2 xb xo Z ∧ (a2 = none → len2 = 0 ∧ cap2 = 0) ∧ ∀ i, i < len2 → (Lit.int .i64 (Z i)).wf = true := by
    obtain ⟨fuel, hf⟩ := h2
    exact open_row Try.underlying22 Try.underlying3 Try.cells3 hf (by simp [Value.cells])
  obtain ⟨a3, len3, cap3, rfl⟩ := okWide_slice Try.underlying23 (hval 3 23 v3 rfl rfl)
  have k3 := h3
  have lt3 : ∀ x ∈ p3, x.block < W.heap.size := by obtain ⟨m, hm⟩ := k3; exact DataW.trod_lt m _ _ _ hm
  obtain ⟨tb, tg, tA, tL, tC, tRB, tRO, T, hT, nT, wT⟩ : ∃ (gb go : Nat) (A : Nat → Option Addr) (L C RB RO : Nat → Nat) (Z : Nat → Nat → Int), MatV .u16 W a3 len3 gb go A L C RB RO Z ∧ (a3 = none → len3 = 0 ∧ cap3 = 0) ∧ ∀ r, r < len3 → ∀ i, i < L r → (Lit.int .u16 (Z r i)).wf = true := by
    obtain ⟨fuel, hf⟩ := h3
    exact open_mat Try.underlying23 Try.underlying41 Try.underlying42 Try.cells41 Try.cells42 hf (by simp [Value.cells])
  obtain ⟨a4, len4, cap4, rfl⟩ := okWide_slice Try.underlying24 (hval 4 24 v4 rfl rfl)
  have k4 := h4
  have lt4 : ∀ x ∈ p4, x.block < W.heap.size := by obtain ⟨m, hm⟩ := k4; exact DataW.trod_lt m _ _ _ hm
  obtain ⟨mb, mo, M, hM, nM, wM⟩ : ∃ (xb xo : Nat) (Z : Nat → Int), RowV .i64 W a4 len4 xb xo Z ∧ (a4 = none → len4 = 0 ∧ cap4 = 0) ∧ ∀ i, i < len4 → (Lit.int .i64 (Z i)).wf = true := by
    obtain ⟨fuel, hf⟩ := h4
    exact open_row Try.underlying24 Try.underlying2 Try.cells2 hf (by simp [Value.cells])
  obtain ⟨a5, len5, cap5, rfl⟩ := okWide_slice Try.underlying25 (hval 5 25 v5 rfl rfl)
  have k5 := h5
  have lt5 : ∀ x ∈ p5, x.block < W.heap.size := by obtain ⟨m, hm⟩ := k5; exact DataW.trod_lt m _ _ _ hm
  obtain ⟨sb, sg, sA, sL, sC, sRB, sRO, S, hS, nS, wS⟩ : ∃ (gb go : Nat) (A : Nat → Option Addr) (L C RB RO : Nat → Nat) (Z : Nat → Nat → Int), MatV .i32 W a5 len5 gb go A L C RB RO Z ∧ (a5 = none → len5 = 0 ∧ cap5 = 0) ∧ ∀ r, r < len5 → ∀ i, i < L r → (Lit.int .i32 (Z r i)).wf = true := by
    obtain ⟨fuel, hf⟩ := h5
    exact open_mat Try.underlying25 Try.underlying43 Try.underlying21 Try.cells43 Try.cells21 hf (by simp [Value.cells])
  obtain ⟨a6, rfl, rfl, rfl, w6⟩ := open_int Try.underlying2 (hval 6 2 v6 rfl rfl) h6
  clear hA0 hval0
  refine (waits_walk a0 a1 a6 a2 a3 a4 a5 len2 cap2 len3 cap3 len4 cap4 len5 cap5 ib io tb tg mb mo sb sg tA sA tL tC tRB tRO sL sC sRB sRO I M T S W (bounds_i64 w1) (bounds_i64 w6) nI nT nM nS hI hT hM hS (fun r hr i hi => bounds_i32 (wS r hr i hi)) (fun i hi => bounds_i64 (wM i hi))).mono fun e W' ⟨he, bel⟩ => ?_
  subst he
  exact ⟨_, rfl, _, _, _, [], _, [], hW', trodAll_mk1 (shut_bool Try.underlying4 _), (trodAll_cons_mk (shut_int Try.underlying3 w0) (trodAll_cons_mk (shut_int Try.underlying3 w1) (trodAll_cons_mk (Below.trod laidOut (by kernel_rfl) (of_decide_eq_true (by kernel_rfl)) k2 bel lt2) (trodAll_cons_mk (Below.trod laidOut (by kernel_rfl) (of_decide_eq_true (by kernel_rfl)) k3 bel lt3) (trodAll_cons_mk (Below.trod laidOut (by kernel_rfl) (of_decide_eq_true (by kernel_rfl)) k4 bel lt4) (trodAll_cons_mk (Below.trod laidOut (by kernel_rfl) (of_decide_eq_true (by kernel_rfl)) k5 bel lt5) (trodAll_cons_mk (shut_int Try.underlying2 w6) trodAll_mk0))))))), rfl, bel.frame _, fun h => by cases h⟩

theorem over : Rows.fnWaitLastsExactlyTheMinimumHoursAfterAStoreRow.holds Try.pinned (OpenSpec.ofChange Rows.fnWaitLastsExactlyTheMinimumHoursAfterAStoreSpec) :=
  OpenClaim.holds_of_wide 6 Try.f6 rfl rfl rfl rfl rfl rfl rfl ⟨rfl, rfl, rfl, rfl, rfl⟩ rfl rfl rfl rfl rfl (by kernel_rfl) Try.func6 (by kernel_rfl)
    (of_decide_eq_true (by kernel_rfl)) (by unfold Func.isWrapper; first | (rw [if_pos (by decide +kernel)]; kernel_rfl) | (rw [if_neg (by decide +kernel)]; exact ⟨rfl, rfl⟩))
    (fun os started H enc _ => lifted os started H enc)

theorem proved : Rows.FnWaitLastsExactlyTheMinimumHoursAfterAStoreSaid := over
end Go.Proofs.Qxb6617160a.fnWaitLastsExactlyTheMinimumHoursAfterAStore
