/-
  FnRootOfInclusion: the row out of its plain statement and the walk. No condition of our own.
-/
import Derived.Test.YtijldedhcjkhiaaRows
import Derived.Test.YtijldedhcjkhiaaPureFnRootOfInclusion
import Derived.Test.YtijldedhcjkhiaaOpenK
import Derived.Test.YtijldedhcjkhiaaX12
import Derived.WalkKit
import Derived.ProofKit
import Derived.OpenShut
import Derived.ShutString
import Derived.ChangeOld
import Derived.Below
import Derived.SizedLaws
namespace Go.Proofs.Ytijldedhcjkhiaa.fnRootOfInclusion
open Go.ChangeShapes Go.WideShapes Go.ChangeAt Go.RowKit Go.Proofs.YtijldedhcjkhiaaW.PrintWords
set_option linter.unusedVariables false
set_option linter.unusedSimpArgs false
theorem own : ownKnob Try.prog.godebug = none := by kernel_rfl
theorem laidOut : laidOutB Try.prog = true := by kernel_rfl
set_option maxRecDepth 100000 in
theorem lifted (os : Os) (started : os.Started) (H : Type) (enc : TypeId × Value → H) :
    ReturnsInHanded {} Try.checked os 4 .any (Rows.fnRootOfInclusionSpec.pre6 enc Try.prog Try.f4 Rows.fnRootOfInclusionRow.domain false) (Rows.fnRootOfInclusionSpec.post enc Try.prog Try.f4 false true false false) := by
  refine returnsInHanded_of_change_sized (C := Try.checked) own started (by kernel_rfl) Try.func4
    (ChangeSpec.witness6 (enc := enc) (C := Try.checked) false ⟨#[], #[.agg #[.int .i64 0, .int .i64 0, .int .i64 0, .int .u64 0, .int .u64 0, .int .u64 0], .int .u64 0, .int .u64 0, .slice none 0 0, .slice none 0 0], []⟩ 8 (by kernel_rfl) (by kernel_rfl) (by kernel_rfl) (by kernel_rfl)) ?_
  intro W base args ds gs before hval0 hW hcnd hsz0 _
  have hval : ∀ (j : Nat) t v, Try.f4.params[j]? = some t → args[j]? = some v → Value.okWide Try.prog W .any base t v := hval0
  have hW' := hW
  obtain ⟨p, q, hA0, hV, rfl, hfz, hnd⟩ := hW
  have hA : DataW.TrodAll enc Try.prog W 0 (fun _ => true) true Try.f4.params.toList args.toList ds p := hA0
  rw [Try.params4] at hA hval
  obtain ⟨v0, vs0, d0, ds0, p0, q0, hargs, rfl, rfl, h0, r0⟩ := trodAll_cons hA
  obtain ⟨v1, vs1, d1, ds1, p1, q1, rfl, rfl, rfl, h1, r1⟩ := trodAll_cons r0
  obtain ⟨v2, vs2, d2, ds2, p2, q2, rfl, rfl, rfl, h2, r2⟩ := trodAll_cons r1
  obtain ⟨v3, vs3, d3, ds3, p3, q3, rfl, rfl, rfl, h3, r3⟩ := trodAll_cons r2
  obtain ⟨v4, vs4, d4, ds4, p4, q4, rfl, rfl, rfl, h4, r4⟩ := trodAll_cons r3
  obtain ⟨rfl, rfl, rfl⟩ := trodAll_nil r4
  obtain rfl : args = #[v0, v1, v2, v3, v4] := by cases args; simp_all
  obtain ⟨rfl, rfl⟩ := trodVars_none hV
  clear hA0 hval0
  have k0 := h0
  have lt0 : ∀ x ∈ p0, x.block < W.heap.size := by obtain ⟨m, hm⟩ := k0; exact DataW.trod_lt m _ _ _ hm
  obtain ⟨m0, hm0⟩ := h0
  obtain ⟨cs0, rfl⟩ := OpenK.okWide_agg Try.underlying24 (hval 0 24 v0 rfl rfl)
  obtain ⟨⟨a0_0, a0_1, a0_2, a0_3, a0_4, a0_5⟩, ⟨_, _, e0, rfl, ⟨_, _, rfl, rfl, ⟨_, _, rfl, rfl, ⟨_, _, rfl, rfl, ⟨_, _, rfl, rfl, rfl⟩⟩⟩⟩⟩, w0⟩ := (OpenK.opens_struct Try.underlying24 (by kernel_rfl) (.cons (OpenK.opens_int Try.underlying3) (by kernel_rfl) (.cons (OpenK.opens_int Try.underlying3) (by kernel_rfl) (.cons (OpenK.opens_int Try.underlying3) (by kernel_rfl) (.cons (OpenK.opens_int Try.underlying22) (by kernel_rfl) (.cons (OpenK.opens_int Try.underlying22) (by kernel_rfl) (.one (OpenK.opens_int Try.underlying22) (by kernel_rfl))))))) (by kernel_rfl)).out hm0
  simp only [List.cons_append, List.nil_append] at e0
  obtain rfl := OpenK.agg_of e0
  have k1 := h1
  have lt1 : ∀ x ∈ p1, x.block < W.heap.size := by obtain ⟨m, hm⟩ := k1; exact DataW.trod_lt m _ _ _ hm
  obtain ⟨a1, rfl, rfl, rfl, w1⟩ := open_int Try.underlying22 (hval 1 22 v1 rfl rfl) h1
  have k2 := h2
  have lt2 : ∀ x ∈ p2, x.block < W.heap.size := by obtain ⟨m, hm⟩ := k2; exact DataW.trod_lt m _ _ _ hm
  obtain ⟨a2, rfl, rfl, rfl, w2⟩ := open_int Try.underlying22 (hval 2 22 v2 rfl rfl) h2
  have k3 := h3
  have lt3 : ∀ x ∈ p3, x.block < W.heap.size := by obtain ⟨m, hm⟩ := k3; exact DataW.trod_lt m _ _ _ hm
  obtain ⟨m3, hm3⟩ := h3
  obtain ⟨A3, len3, c3, rfl⟩ := okWide_slice Try.underlying25 (hval 3 25 v3 rfl rfl)
  obtain ⟨l3, ⟨B3, b3, e3, hc3, hr3⟩, w3⟩ := (OpenK.opens_slice Try.underlying25 (by kernel_rfl) (OpenK.opens_int Try.underlying5)).out hm3
  obtain ⟨rfl, rfl, rfl⟩ := OpenK.slice_of e3
  have k4 := h4
  have lt4 : ∀ x ∈ p4, x.block < W.heap.size := by obtain ⟨m, hm⟩ := k4; exact DataW.trod_lt m _ _ _ hm
  obtain ⟨m4, hm4⟩ := h4
  obtain ⟨A4, len4, c4, rfl⟩ := okWide_slice Try.underlying26 (hval 4 26 v4 rfl rfl)
  obtain ⟨l4, ⟨B4, b4, e4, hc4, hr4⟩, w4⟩ := (OpenK.opens_slice Try.underlying26 (by kernel_rfl) (OpenK.opens_slice Try.underlying25 (by kernel_rfl) (OpenK.opens_int Try.underlying5))).out hm4
  obtain ⟨rfl, rfl, rfl⟩ := OpenK.slice_of e4
  obtain ⟨k, hk⟩ := Pure.FnRootOfInclusion a0_0 a0_1 a0_2 a0_3 a0_4 a0_5 w0 a1 w1 a2 w2 l3 w3 l4 w4
  refine (X.laws_FnRootOfInclusion.calls k a0_0 a0_1 a0_2 a0_3 a0_4 a0_5 a1 a2 A3 c3 l3 A4 c4 l4 true W hr3 hc3 hr4 hc4 hk).mono fun e W' ⟨he, bel⟩ => ?_
  subst he
  exact ⟨_, rfl, _, _, _, [], _, [], hW', trodAll_mk1 (shut_bool Try.underlying4 _), (trodAll_cons_mk (Below.trod laidOut (by kernel_rfl) (of_decide_eq_true (by kernel_rfl)) k0 bel lt0) (trodAll_cons_mk (Below.trod laidOut (by kernel_rfl) (of_decide_eq_true (by kernel_rfl)) k1 bel lt1) (trodAll_cons_mk (Below.trod laidOut (by kernel_rfl) (of_decide_eq_true (by kernel_rfl)) k2 bel lt2) (trodAll_cons_mk (Below.trod laidOut (by kernel_rfl) (of_decide_eq_true (by kernel_rfl)) k3 bel lt3) (trodAll_cons_mk (Below.trod laidOut (by kernel_rfl) (of_decide_eq_true (by kernel_rfl)) k4 bel lt4) trodAll_mk0))))), rfl, bel.frame _, fun h => by cases h⟩
theorem over : Rows.fnRootOfInclusionRow.holds Try.pinned (OpenSpec.ofChange Rows.fnRootOfInclusionSpec) :=
  OpenClaim.holds_of_wide 4 Try.f4 rfl rfl rfl rfl rfl rfl rfl ⟨rfl, rfl, rfl, rfl, rfl⟩ rfl rfl rfl rfl rfl (by kernel_rfl) Try.func4 (by kernel_rfl)
    (of_decide_eq_true (by kernel_rfl)) (by unfold Func.isWrapper; first | (rw [if_pos (by decide +kernel)]; kernel_rfl) | (rw [if_neg (by decide +kernel)]; exact ⟨rfl, rfl⟩))
    (fun os started H enc _ => lifted os started H enc)
theorem proved : Rows.FnRootOfInclusionSaid := over
#print axioms proved
end Go.Proofs.Ytijldedhcjkhiaa.fnRootOfInclusion
namespace Go.Proofs.Ytijldedhcjkhiaa
/-- The row, under a short name, for the claim. -/
theorem fnRootOfInclusion_holds : Rows.FnRootOfInclusionSaid := fnRootOfInclusion.proved
end Go.Proofs.Ytijldedhcjkhiaa
