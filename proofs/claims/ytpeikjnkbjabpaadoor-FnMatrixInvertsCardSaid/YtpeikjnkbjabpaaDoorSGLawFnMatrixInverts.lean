/-
  FnMatrixInverts: the row, and its tied card, out of its plain statement and the walk. No condition of our own.
-/
import Derived.Test.YtpeikjnkbjabpaaDoorSGMPLayG
import Derived.Test.YtpeikjnkbjabpaaDoorSGMPPureFnMatrixInverts
import Derived.Test.YtpeikjnkbjabpaaDoorSGMPOpenK
import Derived.Test.YtpeikjnkbjabpaaDoorSGP11
import Derived.WalkKit
import Derived.ProofKit
import Derived.OpenShut
import Derived.ShutString
import Derived.ChangeOld
import Derived.Below
import Derived.SizedLaws
import Derived.LaidMore
import Derived.Stop.Joined
import Derived.SevenTiedAt
import Derived.Test.YtpeikjnkbjabpaaDoorCards
import Derived.Test.YtpeikjnkbjabpaaDoorTie
namespace Go.Proofs.YtpeikjnkbjabpaaDoor.fnMatrixInverts
open Go.ChangeShapes Go.WideShapes Go.ChangeAt Go.RowKit Go.Proofs.YtpeikjnkbjabpaaDoorW.PrintWords
set_option linter.unusedVariables false
set_option linter.unusedSimpArgs false
theorem own : ownKnob Tryd.prog.godebug = none := by kernel_rfl
theorem laidOut : laidOutB Tryd.prog = true := by kernel_rfl
set_option maxRecDepth 100000 in
theorem lifted (os : Os) (started : os.Started) (H : Type) (enc : TypeId × Value → H) :
    ReturnsInHanded {} Tryd.checked os 7 .any (fun w args => (Rows.fnMatrixInvertsSpec.pre enc Tryd.prog Tryd.f7 [] false w args ∧ laidMetH Tryd.prog Lay.laid w) ∧ sizedMet enc Tryd.prog Tryd.f7 (OpenSpec.ofChange Rows.fnMatrixInvertsSpec) false w args)
      (Rows.fnMatrixInvertsSpec.post enc Tryd.prog Tryd.f7 false true false false) := by
  refine returnsInHanded_of_change_and (C := Tryd.checked) (X := fun w _ => laidMetH Tryd.prog Lay.laid w) (fun _ _ _ hh h => h.of_heap hh) own started (by kernel_rfl) Tryd.func7
    (ChangeSpec.witness_shaped (enc := enc) (C := Tryd.checked) (os := os) (X := fun w _ => laidMetH Tryd.prog Lay.laid w) false (World.doorLaid Tryd.prog 400 os) #[.slice none 0 0] 8 rfl (World.shaped_of_RefB (by kernel_rfl) (by kernel_rfl)) (by kernel_rfl) (by kernel_rfl) (by kernel_rfl) (Lay.door_met os _)) ?_
  intro W base args ds gs before hval0 hW hcnd hsz0 hL _
  have hval : ∀ (j : Nat) t v, Tryd.f7.params[j]? = some t → args[j]? = some v → Value.okWide Tryd.prog W .any base t v := hval0
  have hW' := hW
  obtain ⟨p, q, hA0, hV, rfl, hfz, hnd⟩ := hW
  have hA : DataW.TrodAll enc Tryd.prog W 0 (fun _ => true) true Tryd.f7.params.toList args.toList ds p := hA0
  rw [Tryd.params7] at hA hval
  obtain ⟨v0, vs0, d0, ds0, p0, q0, hargs, rfl, rfl, h0, r0⟩ := trodAll_cons hA
  obtain ⟨rfl, rfl, rfl⟩ := trodAll_nil r0
  obtain rfl : args = #[v0] := by cases args; simp_all
  obtain ⟨rfl, rfl⟩ := trodVars_none hV
  clear hA0 hval0
  have k0 := h0
  have lt0 : ∀ x ∈ p0, x.block < W.heap.size := by obtain ⟨m, hm⟩ := k0; exact DataW.trod_lt m _ _ _ hm
  obtain ⟨m0, hm0⟩ := h0
  obtain ⟨A0, len0, c0, rfl⟩ := okWide_slice Tryd.underlying30 (hval 0 30 v0 rfl rfl)
  obtain ⟨l0, ⟨B0, b0, e0, hc0, hr0⟩, w0⟩ := (OpenK.opens_slice Tryd.underlying30 (by kernel_rfl) (OpenK.opens_slice Tryd.underlying22 (by kernel_rfl) (OpenK.opens_int Tryd.underlying5))).out hm0
  obtain ⟨rfl, rfl, rfl⟩ := OpenK.slice_of e0
  obtain ⟨k, hk⟩ := Pure.FnMatrixInverts l0 w0
  refine (P.laws_FnMatrixInverts.calls k (fun k_ => k_ < W.heap.size) A0 c0 l0 true W (Lay.globE hL) (Lay.globF hL) (Kd.V_mk hc0 (Kd.C_F (Kd.heap_slice 5 (Kd.heap_int .u8)) hr0)) hk).mono fun e W' ⟨he, bel⟩ => ?_
  subst he
  exact ⟨_, rfl, _, _, _, [], _, [], hW', trodAll_mk1 (shut_bool Tryd.underlying4 _), (trodAll_cons_mk (Below.trod laidOut (by kernel_rfl) (of_decide_eq_true (by kernel_rfl)) k0 bel lt0) trodAll_mk0), rfl, bel.frame _, fun h => by cases h⟩
theorem over : Rows.fnMatrixInvertsRow.holds Tryd.pinned (OpenSpec.ofChange Rows.fnMatrixInvertsSpec) :=
  OpenClaim.holds_of_wide 7 Tryd.f7 rfl rfl rfl rfl rfl rfl rfl ⟨rfl, rfl, rfl, rfl, rfl⟩ rfl rfl rfl rfl rfl (by kernel_rfl) Tryd.func7 (by kernel_rfl)
    (of_decide_eq_true (by kernel_rfl)) (by unfold Func.isWrapper; first | (rw [if_pos (by decide +kernel)]; kernel_rfl) | (rw [if_neg (by decide +kernel)]; exact ⟨rfl, rfl⟩))
    (fun os started H enc _ => lifted os started H enc)
theorem proved : Rows.FnMatrixInvertsCardSaid :=
  Claim7.holds_tied_plain_at .later [] [.data, .data, .sentinel, .sentinel, .sentinel, .sentinel, .sentinel, .sentinel] true (true, "5d687dc5c5413b5b59a6e31296dfc4936c84b1e01d1ab7030431801b96dcb8f1") false
    over (fun _ h => by cases h) (by kernel_rfl) (fun _ h => by cases h) fnMatrixInverts_row_tie rfl ⟨rfl, rfl⟩ (by kernel_rfl) rfl
    (fun f fn hf hfn => by
      obtain rfl : f = 7 := Option.some.inj ((show Tryd.prog.funcNamed "pub-sarsen/laws.FnMatrixInverts" = some 7 by kernel_rfl).symm.trans hf) |>.symm
      obtain rfl : fn = Tryd.f7 := (Option.some.inj (Tryd.func7.symm.trans hfn)).symm
      exact ⟨by kernel_rfl, fun j t ht => by
        rw [Tryd.params7] at ht
        have hm : t ∈ [30] := by simpa using Array.mem_of_getElem? ht
        have hall : ([30].all fun u => !Tryd.prog.wantsStandIn u) = true := by kernel_rfl
        exact (show Tryd.prog.wantsStandIn t = false by simpa using List.all_eq_true.1 hall t hm)⟩)
    (by kernel_rfl)
#print axioms proved
end Go.Proofs.YtpeikjnkbjabpaaDoor.fnMatrixInverts
namespace Go.Proofs.YtpeikjnkbjabpaaDoor
theorem fnMatrixInverts_holds : Rows.FnMatrixInvertsCardSaid := fnMatrixInverts.proved
end Go.Proofs.YtpeikjnkbjabpaaDoor
