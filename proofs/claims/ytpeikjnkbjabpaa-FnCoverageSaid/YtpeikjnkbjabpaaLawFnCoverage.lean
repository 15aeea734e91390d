/-
  The leaves below a node are those from its index times two to the power of its level on, as many as this power, modulo 2^64, and none from the level 64 on: for every node. No condition.
-/
import Derived.Test.YtpeikjnkbjabpaaRows
import Derived.Test.YtpeikjnkbjabpaaX2
import Derived.WalkKit
import Derived.ProofKit
import Derived.OpenShut
import Derived.ShutString
import Derived.ChangeOld
import Derived.Below
import Derived.SizedLaws
import Derived.Lib.SmallJoins
namespace Go.Proofs.Ytpeikjnkbjabpaa.fnCoverage
open Go.ChangeShapes Go.WideShapes Go.ChangeAt Go.RowKit Go.Joins Go.Proofs.YtpeikjnkbjabpaaW.PrintWords Go.Proofs.YtpeikjnkbjabpaaW.PrintLast Go.Proofs.YtpeikjnkbjabpaaW.PrintMore
set_option linter.unusedVariables false

theorem shl_out (x y : Int) (h : 64 ≤ y) : shl .u64 x y = 0 := by
  unfold shl
  rw [show min y.toNat IntKind.u64.bits = 64 by show min y.toNat 64 = 64; omega]
  simp only [IntKind.wrap, IntKind.signed, IntKind.bits]
  simp

theorem pure (a b : Int) (h : 0 ≤ a) : X.laws_FnCoverage.f a b = some true := by
  unfold X.laws_FnCoverage.f X.impl_Coverage.f X.impl_toNode.f X.compact_NewNodeID.f X.compact_NodeID_Coverage.f X.spec_Leaves.f
  simp only [Option.bind_some]
  rw [if_pos h]
  simp only [Option.bind_some]
  by_cases h2 : 64 ≤ a
  · rw [if_pos h2, shl_out _ _ h2, shl_out _ _ h2]
    rfl
  · rw [if_neg (by omega)]
    simp

theorem own : ownKnob Try.prog.godebug = none := by kernel_rfl
theorem laidOut : laidOutB Try.prog = true := by kernel_rfl
theorem cells25 : Try.prog.cellsOf 25 = 2 := by kernel_rfl
set_option maxRecDepth 100000 in
theorem lifted (os : Os) (started : os.Started) (H : Type) (enc : TypeId × Value → H) :
    ReturnsInHanded {} Try.checked os 3 .any (Rows.fnCoverageSpec.pre6 enc Try.prog Try.f3 Rows.fnCoverageRow.domain false) (Rows.fnCoverageSpec.post enc Try.prog Try.f3 false true false false) := by
  refine returnsInHanded_of_change_sized (C := Try.checked) own started (by kernel_rfl) Try.func3
    (ChangeSpec.witness6 (enc := enc) (C := Try.checked) false ⟨#[], #[.agg #[.int .u64 0, .int .u64 0]], []⟩ 8 (by kernel_rfl) (by kernel_rfl) (by kernel_rfl) (by kernel_rfl)) ?_
  intro W base args ds gs before hval0 hW hcnd hsz0 _
  have hval : ∀ (j : Nat) t v, Try.f3.params[j]? = some t → args[j]? = some v → Value.okWide Try.prog W .any base t v := hval0
  have hW' := hW
  obtain ⟨p, q, hA0, hV, rfl, hfz, hnd⟩ := hW
  have hA : DataW.TrodAll enc Try.prog W 0 (fun _ => true) true Try.f3.params.toList args.toList ds p := hA0
  rw [Try.params3] at hA hval
  obtain ⟨v0, vs0, d0, ds0, p0, q0, hargs, rfl, rfl, h0, r0⟩ := trodAll_cons hA
  obtain ⟨rfl, rfl, rfl⟩ := trodAll_nil r0
  obtain rfl : args = #[v0] := by cases args; simp_all
  obtain ⟨rfl, rfl⟩ := trodVars_none hV
  have hk := h0
  have hlt : ∀ x ∈ p0, x.block < W.heap.size := by obtain ⟨m, hm⟩ := hk; exact DataW.trod_lt m _ _ _ hm
  obtain ⟨c0, c1, y0, y1, m, rfl, rfl, rfl, hy0, hy1⟩ := open_agg2 Try.underlying25 (by kernel_rfl) cells25 (hval 0 25 v0 rfl rfl) h0
  obtain ⟨a, e0, rfl, wa⟩ := DataW.trod_int Try.underlying22 hy0
  obtain ⟨b, e1, rfl, wb⟩ := DataW.trod_int Try.underlying23 hy1
  simp at e0 e1
  subst e0 e1
  clear hA0 hval0 hsz0
  have ha : 0 ≤ a := by
    simp [Lit.wf, IntKind.min, IntKind.max, IntKind.signed, IntKind.bits] at wa
    omega
  refine (X.laws_FnCoverage.calls a b true W (pure a b ha)).mono fun e W' ⟨he, bel⟩ => ?_
  subst he
  exact ⟨_, rfl, _, _, _, [], _, [], hW', trodAll_mk1 (shut_bool Try.underlying4 _), trodAll_mk1 (Below.trod laidOut (by kernel_rfl) (of_decide_eq_true (by kernel_rfl)) hk bel hlt), rfl, bel.frame _, fun h => by cases h⟩
theorem over : Rows.fnCoverageRow.holds Try.pinned (OpenSpec.ofChange Rows.fnCoverageSpec) :=
  OpenClaim.holds_of_wide 3 Try.f3 rfl rfl rfl rfl rfl rfl rfl ⟨rfl, rfl, rfl, rfl, rfl⟩ rfl rfl rfl rfl rfl (by kernel_rfl) Try.func3 (by kernel_rfl)
    (of_decide_eq_true (by kernel_rfl)) (by unfold Func.isWrapper; first | (rw [if_pos (by decide +kernel)]; kernel_rfl) | (rw [if_neg (by decide +kernel)]; exact ⟨rfl, rfl⟩))
    (fun os started H enc _ => lifted os started H enc)
theorem proved : Rows.FnCoverageSaid := over
#print axioms proved
end Go.Proofs.Ytpeikjnkbjabpaa.fnCoverage
namespace Go.Proofs.Ytpeikjnkbjabpaa
/-- The row, under a short name, for the claim. -/
theorem fnCoverage_holds : Rows.FnCoverageSaid := fnCoverage.proved
end Go.Proofs.Ytpeikjnkbjabpaa
