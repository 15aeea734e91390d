/-
  FnRangeFromLast: the row, and its tied card, out of its plain statement and the walk. No condition of our own.
-/
import Derived.Test.YtijldedhcjkhiaaDoorSTMTLay
import Derived.Test.YtijldedhcjkhiaaDoorSTMTPureFnRangeFromLast
import Derived.Test.YtijldedhcjkhiaaDoorSTMTOpenK
import Derived.Test.YtijldedhcjkhiaaDoorSTT12
import Derived.WalkKit
import Derived.ProofKit
import Derived.OpenShut
import Derived.ShutString
import Derived.ChangeOld
import Derived.Below
import Derived.SizedLaws
import Derived.LaidMore
import Derived.Stop.Joined
import Derived.SevenTiedAt
import Derived.Test.YtijldedhcjkhiaaDoorCards
import Derived.Test.YtijldedhcjkhiaaDoorTie
namespace Go.Proofs.YtijldedhcjkhiaaDoor.fnRangeFromLast
open Go.ChangeShapes Go.WideShapes Go.ChangeAt Go.RowKit Go.Proofs.YtijldedhcjkhiaaDoorW.PrintWords
set_option linter.unusedVariables false
set_option linter.unusedSimpArgs false
theorem own : ownKnob Tryd.prog.godebug = none := by kernel_rfl
theorem laidOut : laidOutB Tryd.prog = true := by kernel_rfl
set_option maxRecDepth 100000 in
theorem lifted (os : Os) (started : os.Started) (H : Type) (enc : TypeId × Value → H) :
    ReturnsInHanded {} Tryd.checked os 11 .any (fun w args => (Rows.fnRangeFromLastSpec.pre enc Tryd.prog Tryd.f11 [] false w args ∧ laidMetH Tryd.prog Lay.laid w) ∧ sizedMet enc Tryd.prog Tryd.f11 (OpenSpec.ofChange Rows.fnRangeFromLastSpec) false w args)
      (Rows.fnRangeFromLastSpec.post enc Tryd.prog Tryd.f11 false true false false) := by
  refine returnsInHanded_of_change_and (C := Tryd.checked) (X := fun w _ => laidMetH Tryd.prog Lay.laid w) (fun _ _ _ hh h => h.of_heap hh) own started (by kernel_rfl) Tryd.func11
    (ChangeSpec.witness_shaped (enc := enc) (C := Tryd.checked) (os := os) (X := fun w _ => laidMetH Tryd.prog Lay.laid w) false (World.doorLaid Tryd.prog 400 os) #[.agg #[.int .i64 0, .int .i64 0, .int .i64 0, .int .u64 0, .int .u64 0, .int .u64 0], .int .u64 0, .slice none 0 0, .slice none 0 0] 8 rfl (World.shaped_of_RefB (by kernel_rfl) (by kernel_rfl)) (by kernel_rfl) (by kernel_rfl) (by kernel_rfl) (Lay.door_met os _)) ?_
  intro W base args ds gs before hval0 hW hcnd hsz0 hL _
  have hval : ∀ (j : Nat) t v, Tryd.f11.params[j]? = some t → args[j]? = some v → Value.okWide Tryd.prog W .any base t v := hval0
  have hW' := hW
  obtain ⟨p, q, hA0, hV, rfl, hfz, hnd⟩ := hW
  have hA : DataW.TrodAll enc Tryd.prog W 0 (fun _ => true) true Tryd.f11.params.toList args.toList ds p := hA0
  rw [Tryd.params11] at hA hval
  obtain ⟨v0, vs0, d0, ds0, p0, q0, hargs, rfl, rfl, h0, r0⟩ := trodAll_cons hA
  obtain ⟨v1, vs1, d1, ds1, p1, q1, rfl, rfl, rfl, h1, r1⟩ := trodAll_cons r0
  obtain ⟨v2, vs2, d2, ds2, p2, q2, rfl, rfl, rfl, h2, r2⟩ := trodAll_cons r1
  obtain ⟨v3, vs3, d3, ds3, p3, q3, rfl, rfl, rfl, h3, r3⟩ := trodAll_cons r2
  obtain ⟨rfl, rfl, rfl⟩ := trodAll_nil r3
  obtain rfl : args = #[v0, v1, v2, v3] := by cases args; simp_all
  obtain ⟨rfl, rfl⟩ := trodVars_none hV
  clear hA0 hval0
  have k0 := h0
  have lt0 : ∀ x ∈ p0, x.block < W.heap.size := by obtain ⟨m, hm⟩ := k0; exact DataW.trod_lt m _ _ _ hm
  obtain ⟨m0, hm0⟩ := h0
  obtain ⟨cs0, rfl⟩ := OpenK.okWide_agg Tryd.underlying37 (hval 0 37 v0 rfl rfl)
  obtain ⟨⟨a0_0, a0_1, a0_2, a0_3, a0_4, a0_5⟩, ⟨_, _, e0, rfl, ⟨_, _, rfl, rfl, ⟨_, _, rfl, rfl, ⟨_, _, rfl, rfl, ⟨_, _, rfl, rfl, rfl⟩⟩⟩⟩⟩, w0⟩ := (OpenK.opens_struct Tryd.underlying37 (by kernel_rfl) (.cons (OpenK.opens_int Tryd.underlying3) (by kernel_rfl) (.cons (OpenK.opens_int Tryd.underlying3) (by kernel_rfl) (.cons (OpenK.opens_int Tryd.underlying3) (by kernel_rfl) (.cons (OpenK.opens_int Tryd.underlying22) (by kernel_rfl) (.cons (OpenK.opens_int Tryd.underlying22) (by kernel_rfl) (.one (OpenK.opens_int Tryd.underlying22) (by kernel_rfl))))))) (by kernel_rfl)).out hm0
  simp only [List.cons_append, List.nil_append] at e0
  obtain rfl := OpenK.agg_of e0
  have k1 := h1
  have lt1 : ∀ x ∈ p1, x.block < W.heap.size := by obtain ⟨m, hm⟩ := k1; exact DataW.trod_lt m _ _ _ hm
  obtain ⟨a1, rfl, rfl, rfl, w1⟩ := open_int Tryd.underlying22 (hval 1 22 v1 rfl rfl) h1
  have k2 := h2
  have lt2 : ∀ x ∈ p2, x.block < W.heap.size := by obtain ⟨m, hm⟩ := k2; exact DataW.trod_lt m _ _ _ hm
  obtain ⟨m2, hm2⟩ := h2
  obtain ⟨A2, len2, c2, rfl⟩ := okWide_slice Tryd.underlying42 (hval 2 42 v2 rfl rfl)
  obtain ⟨l2, ⟨B2, b2, e2, hc2, hr2⟩, w2⟩ := (OpenK.opens_slice Tryd.underlying42 (by kernel_rfl) (OpenK.opens_int Tryd.underlying5)).out hm2
  obtain ⟨rfl, rfl, rfl⟩ := OpenK.slice_of e2
  have k3 := h3
  have lt3 : ∀ x ∈ p3, x.block < W.heap.size := by obtain ⟨m, hm⟩ := k3; exact DataW.trod_lt m _ _ _ hm
  obtain ⟨m3, hm3⟩ := h3
  obtain ⟨A3, len3, c3, rfl⟩ := okWide_slice Tryd.underlying38 (hval 3 38 v3 rfl rfl)
  obtain ⟨l3, ⟨B3, b3, e3, hc3, hr3⟩, w3⟩ := (OpenK.opens_slice Tryd.underlying38 (by kernel_rfl) (OpenK.opens_slice Tryd.underlying42 (by kernel_rfl) (OpenK.opens_int Tryd.underlying5))).out hm3
  obtain ⟨rfl, rfl, rfl⟩ := OpenK.slice_of e3
  obtain ⟨k, hk⟩ := Pure.FnRangeFromLast a0_0 a0_1 a0_2 a0_3 a0_4 a0_5 w0 a1 w1 l2 w2 l3 w3
  refine (T.laws_FnRangeFromLast.calls k a0_0 a0_1 a0_2 a0_3 a0_4 a0_5 a1 (fun k_ => k_ < W.heap.size) A2 c2 l2 (fun k_ => k_ < W.heap.size) A3 c3 l3 true W (Lay.globT hL) (Kd.V_mk hc2 (Kd.C_F (Kd.heap_int .u8) hr2)) (Kd.V_mk hc3 (Kd.C_F (Kd.heap_slice 5 (Kd.heap_int .u8)) hr3)) hk).mono fun e W' ⟨he, bel⟩ => ?_
  subst he
  exact ⟨_, rfl, _, _, _, [], _, [], hW', trodAll_mk1 (shut_bool Tryd.underlying4 _), (trodAll_cons_mk (Below.trod laidOut (by kernel_rfl) (of_decide_eq_true (by kernel_rfl)) k0 bel lt0) (trodAll_cons_mk (Below.trod laidOut (by kernel_rfl) (of_decide_eq_true (by kernel_rfl)) k1 bel lt1) (trodAll_cons_mk (Below.trod laidOut (by kernel_rfl) (of_decide_eq_true (by kernel_rfl)) k2 bel lt2) (trodAll_cons_mk (Below.trod laidOut (by kernel_rfl) (of_decide_eq_true (by kernel_rfl)) k3 bel lt3) trodAll_mk0)))), rfl, bel.frame _, fun h => by cases h⟩
theorem over : Rows.fnRangeFromLastRow.holds Tryd.pinned (OpenSpec.ofChange Rows.fnRangeFromLastSpec) :=
  OpenClaim.holds_of_wide 11 Tryd.f11 rfl rfl rfl rfl rfl rfl rfl ⟨rfl, rfl, rfl, rfl, rfl⟩ rfl rfl rfl rfl rfl (by kernel_rfl) Tryd.func11 (by kernel_rfl)
    (of_decide_eq_true (by kernel_rfl)) (by unfold Func.isWrapper; first | (rw [if_pos (by decide +kernel)]; kernel_rfl) | (rw [if_neg (by decide +kernel)]; exact ⟨rfl, rfl⟩))
    (fun os started H enc _ => lifted os started H enc)
theorem proved : Rows.FnRangeFromLastCardSaid :=
  Claim7.holds_tied_plain_at .later [] [.data] true (true, "89311f80e6b21af085a353f32bd1607d9567aab0ed2e2a73c788febb77f53f56") true
    over (fun _ h => by cases h) (by kernel_rfl) (fun _ h => by cases h) fnRangeFromLast_row_tie rfl ⟨rfl, rfl⟩ (by kernel_rfl) rfl
    (fun f fn hf hfn => by
      obtain rfl : f = 11 := Option.some.inj ((show Tryd.prog.funcNamed "pub-sarsen/laws.FnRangeFromLast" = some 11 by kernel_rfl).symm.trans hf) |>.symm
      obtain rfl : fn = Tryd.f11 := (Option.some.inj (Tryd.func11.symm.trans hfn)).symm
      exact ⟨by kernel_rfl, fun j t ht => by
        rw [Tryd.params11] at ht
        have hm : t ∈ [37, 22, 42, 38] := by simpa using Array.mem_of_getElem? ht
        have hall : ([37, 22, 42, 38].all fun u => !Tryd.prog.wantsStandIn u) = true := by kernel_rfl
        exact (show Tryd.prog.wantsStandIn t = false by simpa using List.all_eq_true.1 hall t hm)⟩)
    (by kernel_rfl)
#print axioms proved
end Go.Proofs.YtijldedhcjkhiaaDoor.fnRangeFromLast
namespace Go.Proofs.YtijldedhcjkhiaaDoor
theorem fnRangeFromLast_holds : Rows.FnRangeFromLastCardSaid := fnRangeFromLast.proved
end Go.Proofs.YtijldedhcjkhiaaDoor
