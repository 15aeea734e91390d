/-
  FnRangeRoot: the row, and its tied card, out of its plain statement and the walk. No condition of our own.
-/
import Derived.Test.YtijldedhcjkhiaaDoorSUMULay
import Derived.Test.YtijldedhcjkhiaaDoorSUMUPureFnRangeRoot
import Derived.Test.YtijldedhcjkhiaaDoorSUMUOpenK
import Derived.Test.YtijldedhcjkhiaaDoorSUU10
import Derived.WalkKit
import Derived.ProofKit
import Derived.OpenShut
import Derived.ShutString
import Derived.ChangeOld
import Derived.Below
import Derived.SizedLaws
import Derived.LaidMore
import Derived.Stop.Joined
import Derived.SevenTiedAt
import Derived.Test.YtijldedhcjkhiaaDoorCards
import Derived.Test.YtijldedhcjkhiaaDoorTie
namespace Go.Proofs.YtijldedhcjkhiaaDoor.fnRangeRoot
open Go.ChangeShapes Go.WideShapes Go.ChangeAt Go.RowKit Go.Proofs.YtijldedhcjkhiaaDoorW.PrintWords
set_option linter.unusedVariables false
set_option linter.unusedSimpArgs false
theorem own : ownKnob Tryd.prog.godebug = none := by kernel_rfl
theorem laidOut : laidOutB Tryd.prog = true := by kernel_rfl
set_option maxRecDepth 100000 in
theorem lifted (os : Os) (started : os.Started) (H : Type) (enc : TypeId × Value → H) :
    ReturnsInHanded {} Tryd.checked os 4 .any (fun w args => (Rows.fnRangeRootSpec.pre enc Tryd.prog Tryd.f4 [] false w args ∧ laidMetH Tryd.prog Lay.laid w) ∧ sizedMet enc Tryd.prog Tryd.f4 (OpenSpec.ofChange Rows.fnRangeRootSpec) false w args)
      (Rows.fnRangeRootSpec.post enc Tryd.prog Tryd.f4 false true false false) := by
  refine returnsInHanded_of_change_and (C := Tryd.checked) (X := fun w _ => laidMetH Tryd.prog Lay.laid w) (fun _ _ _ hh h => h.of_heap hh) own started (by kernel_rfl) Tryd.func4
    (ChangeSpec.witness_shaped (enc := enc) (C := Tryd.checked) (os := os) (X := fun w _ => laidMetH Tryd.prog Lay.laid w) false (World.doorLaid Tryd.prog 400 os) #[.agg #[.int .i64 0, .int .i64 0, .int .i64 0, .int .u64 0, .int .u64 0, .int .u64 0], .agg #[.int .u64 0, .int .u64 0, .slice none 0 0]] 8 rfl (World.shaped_of_RefB (by kernel_rfl) (by kernel_rfl)) (by kernel_rfl) (by kernel_rfl) (by kernel_rfl) (Lay.door_met os _)) ?_
  intro W base args ds gs before hval0 hW hcnd hsz0 hL _
  have hval : ∀ (j : Nat) t v, Tryd.f4.params[j]? = some t → args[j]? = some v → Value.okWide Tryd.prog W .any base t v := hval0
  have hW' := hW
  obtain ⟨p, q, hA0, hV, rfl, hfz, hnd⟩ := hW
  have hA : DataW.TrodAll enc Tryd.prog W 0 (fun _ => true) true Tryd.f4.params.toList args.toList ds p := hA0
  rw [Tryd.params4] at hA hval
  obtain ⟨v0, vs0, d0, ds0, p0, q0, hargs, rfl, rfl, h0, r0⟩ := trodAll_cons hA
  obtain ⟨v1, vs1, d1, ds1, p1, q1, rfl, rfl, rfl, h1, r1⟩ := trodAll_cons r0
  obtain ⟨rfl, rfl, rfl⟩ := trodAll_nil r1
  obtain rfl : args = #[v0, v1] := by cases args; simp_all
  obtain ⟨rfl, rfl⟩ := trodVars_none hV
  clear hA0 hval0
  have k0 := h0
  have lt0 : ∀ x ∈ p0, x.block < W.heap.size := by obtain ⟨m, hm⟩ := k0; exact DataW.trod_lt m _ _ _ hm
  obtain ⟨m0, hm0⟩ := h0
  obtain ⟨cs0, rfl⟩ := OpenK.okWide_agg Tryd.underlying37 (hval 0 37 v0 rfl rfl)
  obtain ⟨⟨a0_0, a0_1, a0_2, a0_3, a0_4, a0_5⟩, ⟨_, _, e0, rfl, ⟨_, _, rfl, rfl, ⟨_, _, rfl, rfl, ⟨_, _, rfl, rfl, ⟨_, _, rfl, rfl, rfl⟩⟩⟩⟩⟩, w0⟩ := (OpenK.opens_struct Tryd.underlying37 (by kernel_rfl) (.cons (OpenK.opens_int Tryd.underlying3) (by kernel_rfl) (.cons (OpenK.opens_int Tryd.underlying3) (by kernel_rfl) (.cons (OpenK.opens_int Tryd.underlying3) (by kernel_rfl) (.cons (OpenK.opens_int Tryd.underlying22) (by kernel_rfl) (.cons (OpenK.opens_int Tryd.underlying22) (by kernel_rfl) (.one (OpenK.opens_int Tryd.underlying22) (by kernel_rfl))))))) (by kernel_rfl)).out hm0
  simp only [List.cons_append, List.nil_append] at e0
  obtain rfl := OpenK.agg_of e0
  have k1 := h1
  have lt1 : ∀ x ∈ p1, x.block < W.heap.size := by obtain ⟨m, hm⟩ := k1; exact DataW.trod_lt m _ _ _ hm
  obtain ⟨m1, hm1⟩ := h1
  obtain ⟨cs1, rfl⟩ := OpenK.okWide_agg Tryd.underlying40 (hval 1 40 v1 rfl rfl)
  obtain ⟨⟨a1_0, a1_1, l1_2⟩, ⟨_, _, e1, rfl, ⟨_, _, rfl, rfl, ⟨A1_2, c1_2, rfl, hc1_2, hr1_2⟩⟩⟩, w1⟩ := (OpenK.opens_struct Tryd.underlying40 (by kernel_rfl) (.cons (OpenK.opens_int Tryd.underlying22) (by kernel_rfl) (.cons (OpenK.opens_int Tryd.underlying22) (by kernel_rfl) (.one (OpenK.opens_slice Tryd.underlying38 (by kernel_rfl) (OpenK.opens_slice Tryd.underlying42 (by kernel_rfl) (OpenK.opens_int Tryd.underlying5))) (by kernel_rfl)))) (by kernel_rfl)).out hm1
  simp only [List.cons_append, List.nil_append] at e1
  obtain rfl := OpenK.agg_of e1
  obtain ⟨k, hk⟩ := Pure.FnRangeRoot a0_0 a0_1 a0_2 a0_3 a0_4 a0_5 w0 a1_0 a1_1 l1_2 w1
  refine (U.laws_FnRangeRoot.calls k a0_0 a0_1 a0_2 a0_3 a0_4 a0_5 a1_0 a1_1 A1_2 c1_2 l1_2 true W (Lay.globT hL) hr1_2 hc1_2 hk).mono fun e W' ⟨he, bel⟩ => ?_
  subst he
  exact ⟨_, rfl, _, _, _, [], _, [], hW', trodAll_mk1 (shut_bool Tryd.underlying4 _), (trodAll_cons_mk (Below.trod laidOut (by kernel_rfl) (of_decide_eq_true (by kernel_rfl)) k0 bel lt0) (trodAll_cons_mk (Below.trod laidOut (by kernel_rfl) (of_decide_eq_true (by kernel_rfl)) k1 bel lt1) trodAll_mk0)), rfl, bel.frame _, fun h => by cases h⟩
theorem over : Rows.fnRangeRootRow.holds Tryd.pinned (OpenSpec.ofChange Rows.fnRangeRootSpec) :=
  OpenClaim.holds_of_wide 4 Tryd.f4 rfl rfl rfl rfl rfl rfl rfl ⟨rfl, rfl, rfl, rfl, rfl⟩ rfl rfl rfl rfl rfl (by kernel_rfl) Tryd.func4 (by kernel_rfl)
    (of_decide_eq_true (by kernel_rfl)) (by unfold Func.isWrapper; first | (rw [if_pos (by decide +kernel)]; kernel_rfl) | (rw [if_neg (by decide +kernel)]; exact ⟨rfl, rfl⟩))
    (fun os started H enc _ => lifted os started H enc)
theorem proved : Rows.FnRangeRootCardSaid :=
  Claim7.holds_tied_plain_at .later [] [.data] true (true, "89311f80e6b21af085a353f32bd1607d9567aab0ed2e2a73c788febb77f53f56") true
    over (fun _ h => by cases h) (by kernel_rfl) (fun _ h => by cases h) fnRangeRoot_row_tie rfl ⟨rfl, rfl⟩ (by kernel_rfl) rfl
    (fun f fn hf hfn => by
      obtain rfl : f = 4 := Option.some.inj ((show Tryd.prog.funcNamed "pub-sarsen/laws.FnRangeRoot" = some 4 by kernel_rfl).symm.trans hf) |>.symm
      obtain rfl : fn = Tryd.f4 := (Option.some.inj (Tryd.func4.symm.trans hfn)).symm
      exact ⟨by kernel_rfl, fun j t ht => by
        rw [Tryd.params4] at ht
        have hm : t ∈ [37, 40] := by simpa using Array.mem_of_getElem? ht
        have hall : ([37, 40].all fun u => !Tryd.prog.wantsStandIn u) = true := by kernel_rfl
        exact (show Tryd.prog.wantsStandIn t = false by simpa using List.all_eq_true.1 hall t hm)⟩)
    (by kernel_rfl)
#print axioms proved
end Go.Proofs.YtijldedhcjkhiaaDoor.fnRangeRoot
namespace Go.Proofs.YtijldedhcjkhiaaDoor
theorem fnRangeRoot_holds : Rows.FnRangeRootCardSaid := fnRangeRoot.proved
end Go.Proofs.YtijldedhcjkhiaaDoor
