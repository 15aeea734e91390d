import Derived.Test.YtijldedhcjkhiaaDoorProg
import Derived.Below
import Derived.Deep.Draws
import Derived.Deep.AppendLies
import Derived.Maps.AppendAt
import Derived.OwnWalk
import Derived.Laws.BytesArg
import Derived.Laws.MakeOwn
import Derived.Laws.OwnMore
import Derived.Deep.OwnRows
import Derived.Tactics
import Derived.Lib.ConvBytes
import Derived.Laws.Slices
import Derived.WalkKit
import Derived.KernelRfl
import Derived.RowKit3
import Derived.Deep.LoopGhost
import Derived.Deep.QuietTactic
import Derived.BigQuiet
import Derived.WideLaws
import Derived.Deep.DeepCutAuto
import Derived.Deep.CutBlock
import Derived.Deep.RegionHeld3
import Derived.Laws.Rows
import Derived.Lib.AppendStr
import Derived.ArgAppend
import Derived.Laws.IdiomCopy
import Derived.OrdersHeld
import Derived.Laws.BitsLemmas
import Derived.RowKit
import Derived.Lib.TrailingZeros
import Derived.Laws.Bits64b
import Derived.Lib.BitFns
import Derived.Lib.Strings
import Derived.Lib.Slices
import Derived.Lib.Small
import Derived.Lib.Walk
import Derived.Test.YtijldedhcjkhiaaDoorSSWWords
import Derived.Test.YtijldedhcjkhiaaDoorSSWLast
import Derived.Test.YtijldedhcjkhiaaDoorSSWTab
import Derived.Test.YtijldedhcjkhiaaDoorSSWFour
import Derived.Test.YtijldedhcjkhiaaDoorSSWQPut
import Derived.Test.YtijldedhcjkhiaaDoorSSWApart
import Derived.Test.YtijldedhcjkhiaaDoorSSWArr
import Derived.Test.YtijldedhcjkhiaaDoorSSWZeros
import Derived.Test.YtijldedhcjkhiaaDoorSSWFoot
import Derived.Test.YtijldedhcjkhiaaDoorSSWKept
import Derived.Test.YtijldedhcjkhiaaDoorSSWShare
import Derived.Test.YtijldedhcjkhiaaDoorSSWN
import Derived.Test.YtijldedhcjkhiaaDoorSSWFootNe
import Derived.Test.YtijldedhcjkhiaaDoorSSWAt
import Derived.Test.YtijldedhcjkhiaaDoorSSWEqStruct
import Derived.Test.YtijldedhcjkhiaaDoorSSWRepsOne
import Derived.Test.YtijldedhcjkhiaaDoorSSWInv
import Derived.Test.YtijldedhcjkhiaaDoorSSWInvWords
import Derived.Test.YtijldedhcjkhiaaDoorSSWGuard
import Derived.Test.YtijldedhcjkhiaaDoorSSWNEv
import Derived.Test.YtijldedhcjkhiaaDoorSSWMore
namespace Go.Proofs.YtijldedhcjkhiaaDoor.S
open Go.RowKit Go.Proofs.YtijldedhcjkhiaaDoorW.PrintWords Go.Proofs.YtijldedhcjkhiaaDoorW.PrintLast Go.Proofs.YtijldedhcjkhiaaDoorW.PrintMore
attribute [local go_sem] max2_int min2_int max_two min_two max_three min_three max_four min_four   -- for this text's walks alone
set_option linter.unusedVariables false
set_option linter.unusedSimpArgs false
def errT (c : Int) : TypeId := if c = 1 then 177 else 193
def errU (c : Int) (q : Nat) (v1 v2 : Value) : Value := if c = 1 then .agg #[v2, v1] else .pointer (some ⟨q, 0, none⟩)
def errP : (Nat × Option Int) × Value × Value → Value
  | ((_, none), _, _) => .nilIface
  | ((q, some c), v1, v2) => .iface (errT c) (errU c q v1 v2)
theorem errW_none (q : Nat) (v1 v2 : Value) : errP ((q, none), v1, v2) = .nilIface := rfl
theorem errW_some (q : Nat) (c : Int) (v1 v2 : Value) : errP ((q, some c), v1, v2) = .iface (errT c) (errU c q v1 v2) := rfl
theorem info5 : (Tryd.prog.info? 5).map (fun i => (i.zero, i.size, i.bytes)) = some (some (.int .u8 0), 1, 1) := by kernel_rfl
theorem info42 : (Tryd.prog.info? 42).map (fun i => (i.zero, i.size, i.bytes)) = some (some (.slice none 0 0), 1, 24) := by kernel_rfl
theorem info70 : (Tryd.prog.info? 70).map (fun i => (i.zero, i.size, i.bytes)) = some (some (.agg #[(.int .u64 0), (.int .u64 0)]), 2, 16) := by kernel_rfl
theorem info88 : (Tryd.prog.info? 88).map (fun i => (i.zero, i.size, i.bytes)) = some (some (.agg #[(.int .u64 0), (.int .u64 0), (.slice none 0 0)]), 3, 40) := by kernel_rfl
def rd_L1 (xs : List (List Int)) (i : Int) : (List Int) := xs.getD i.toNat ([] : List Int)
theorem at_L1 {w : World} {A : Option Addr} {n : Nat} {xs : List (List Int)} (h : Kd.C (Kd.slice 5 (Kd.int .u8)) w A n xs) (i : Int) (h0 : 0 ≤ i) (h1 : i < n) : ∃ ad A0 c0, A = some ad ∧ w.cell? (ad.add i.toNat) = some (.slice A0 (rd_L1 xs i).length c0) ∧ (rd_L1 xs i).length ≤ c0 ∧ (Kd.int .u8).C w A0 (rd_L1 xs i).length (rd_L1 xs i) := by
  obtain ⟨ad, c, e, _, hK, hc0⟩ := Kd.C_get h ([] : List Int) i h0 h1
  have hc : ∀ j u, c[j]? = some u → w.cell? (ad.add (i.toNat * 1 + j)) = some u := hc0
  obtain ⟨A0, c0, rfl, l0, g0⟩ := hK
  exact ⟨ad, A0, c0, e, by have hq := hc 0 _ rfl; rwa [Nat.mul_one, Nat.add_zero] at hq, l0, g0⟩
structure S70 where
  f0 : Int
  f1 : Int
def z70 : S70 := ⟨(0 : Int), (0 : Int)⟩
def k70 : Kd S70 := Kd.iso (Kd.pair (Kd.int .u64) (Kd.int .u64)) (fun x : S70 => (x.f0, x.f1))
theorem k70_open {w : World} {x : S70} {cs : List Value} (h : k70.K w x cs) : cs = [.int .u64 x.f0, .int .u64 x.f1] := by
  obtain ⟨_, _, rfl, rfl, rfl⟩ := h
  exact rfl
theorem k70_mkM (w : World) (base : Nat) (ok : Nat → Prop) (x : S70)  : k70.M w base ok x [.int .u64 x.f0, .int .u64 x.f1] := ⟨[.int .u64 x.f0], [.int .u64 x.f1], rfl, rfl, rfl⟩
structure S88 where
  f0 : S70
  f1 : (List Int)
def z88 : S88 := ⟨z70, ([] : List Int)⟩
def k88 : Kd S88 := Kd.iso (Kd.pair k70 (Kd.slice 5 (Kd.int .u8))) (fun x : S88 => (x.f0, x.f1))
theorem k88_open {w : World} {x : S88} {cs : List Value} (h : k88.K w x cs) : ∃ A2 c2, cs = [.int .u64 x.f0.f0, .int .u64 x.f0.f1, .slice A2 x.f1.length c2] ∧ x.f1.length ≤ c2 ∧ (Kd.int .u8).C w A2 x.f1.length x.f1 := by
  obtain ⟨_, _, rfl, s0, ⟨A2, c2, rfl, l2, g2⟩⟩ := h
  obtain rfl := k70_open s0
  exact ⟨A2, c2, rfl, l2, g2⟩
theorem k88_mkM (w : World) (base : Nat) (ok : Nat → Prop) (x : S88) {v2 : Value} (g2 : (Kd.int .u8).R 5 w base ok v2 x.f1) : k88.M w base ok x [.int .u64 x.f0.f0, .int .u64 x.f0.f1, v2] := ⟨[.int .u64 x.f0.f0, .int .u64 x.f0.f1], [v2], rfl, (k70_mkM w base ok x.f0 ), ⟨v2, rfl, g2⟩⟩
def rd_T88 (xs : List S88) (i : Int) : S88 := xs.getD i.toNat z88
theorem at_T88 {w : World} {A : Option Addr} {n : Nat} {xs : List S88} (h : Kd.C k88 w A n xs) (i : Int) (h0 : 0 ≤ i) (h1 : i < n) : ∃ ad A2 c2, A = some ad ∧ w.cell? (ad.add (i.toNat * 3)) = some (.int .u64 (rd_T88 xs i).f0.f0) ∧ w.cell? ⟨(ad.add (i.toNat * 3)).block, (ad.add (i.toNat * 3)).off + 1, none⟩ = some (.int .u64 (rd_T88 xs i).f0.f1) ∧ w.cell? ⟨(ad.add (i.toNat * 3)).block, (ad.add (i.toNat * 3)).off + 2, none⟩ = some (.slice A2 (rd_T88 xs i).f1.length c2) ∧ (rd_T88 xs i).f1.length ≤ c2 ∧ (Kd.int .u8).C w A2 (rd_T88 xs i).f1.length (rd_T88 xs i).f1 := by
  obtain ⟨ad, c, e, _, hK, hc0⟩ := Kd.C_get h z88 i h0 h1
  have hc : ∀ j u, c[j]? = some u → w.cell? (ad.add (i.toNat * 3 + j)) = some u := hc0
  obtain ⟨A2, c2, rfl, l2, g2⟩ := k88_open hK
  exact ⟨ad, A2, c2, e, hc 0 _ rfl, by rw [← add_field _ _ 1 (by omega)]; exact hc 1 _ rfl, by rw [← add_field _ _ 2 (by omega)]; exact hc 2 _ rfl, l2, g2⟩
section
variable {P : Program} {ops : Array Oper} {Q : Exit → Act → World → Prop} {o : Oper} {rest : List Oper} {a : Act} {W : World}
end
section
variable {P : Program} {ops : Array Oper} {Q : Exit → Act → World → Prop} {o : Oper} {rest : List Oper} {a : Act} {W : World}
theorem gate_funcval {t : Tmp} {as_ : Array Operand} {ts : Array TypeId} (_ho : o.op = .call { callee := .value (.tmp t), args := as_, argTypes := ts }) (h : wpList P ops Q (o :: rest) a W) : wpList P ops Q (o :: rest) a W := h
end
theorem funcval_run_ {P : Program} {oi : Oper} {a : Act} {w : World} {f : FuncId} {fn : Func} {t : Operand} {as_ : Array Operand} {ts : Array TypeId} {v : Value} (hf : P.funcs[f]? = some fn) (hname : (fn.name == "runtime.NumGoroutine") = false) (hb : fn.body.isSome = true) (rest_ all : Array Value)
    (hop : oi.op = .call { callee := .value t, args := as_, argTypes := ts }) (hrecv : a.eval t = .func (.func f) #[v] #[]) (hargs : as_.map a.eval = rest_) (hall : #[v] ++ rest_ = all) :
    (execOp a.eval oi).run P w = .ok (.enter f all) w := by
  have he := enters_ hf hname hb all w
  subst hall
  subst hargs
  have hX : ∀ X : Array Value, (callFunc f (#[v] ++ X)).run P w = .ok (.enter f (#[v] ++ X)) w → (invoke (.fn (.func f) #[]) (#[v] ++ X)).run P w = .ok (.enter f (#[v] ++ X)) w := by
    intro X hx
    obtain ⟨l⟩ := X
    simp [invoke] at hx ⊢
    exact hx
  unfold execOp
  simp [hop, resolve, hrecv]
  exact hX _ he
theorem goesF_ {P : Program} {ops : Array Oper} {Q : Exit → Act → World → Prop} {oi : Oper} {N : Option Tmp} {a : Act} {w : World} {K : Act → World → Prop} {f : FuncId} {fn : Func} {t : Operand} {as_ : Array Operand} {ts : Array TypeId} {v : Value} (hf : P.funcs[f]? = some fn) (hname : (fn.name == "runtime.NumGoroutine") = false) (hb : fn.body.isSome = true) (rest_ all : Array Value)
    (hw : Region.wanted oi (yielded ops a.tmps) = true) (hN : oi.dst = N) (hop : oi.op = .call { callee := .value t, args := as_, argTypes := ts }) (hrecv : a.eval t = .func (.func f) #[v] #[]) (hargs : as_.map a.eval = rest_) (hall : #[v] ++ rest_ = all)
    (h : Calls P f all w fun e w' => ∃ v, e = .returned v ∧ K (a.put N v) w') : if Region.wanted oi (yielded ops a.tmps) = true then Oper.wp P oi a w K Q else K (a.put N undef) w :=
  call_ f all hw hN (funcval_run_ (w := w) hf hname hb rest_ all hop hrecv hargs hall) h
structure GlobT (w : World) : Prop where mk :: (out : ∀ j, j < 64 → w.cell? ⟨0, j, none⟩ = some (.int .u8 ((Lib.deBruijn64tab.getD j 0 : Nat) : Int)))
theorem GlobT.below {w w' : World} (h : GlobT w) (hb : Below w.heap.size w w') : GlobT w' := ⟨fun j hj => pw_cell_below hb (h.out j hj)⟩
theorem GlobT.drewN {w : World} (h : GlobT w) (n : Nat) : GlobT (w.drewN n) := ⟨h.out⟩
theorem GlobT.drew {w : World} (h : GlobT w) : GlobT w.drew := ⟨h.out⟩
section MakeCap
variable {P : Program} {ops : Array Oper} {o : Oper} {a : Act} {Q : Exit → Act → World → Prop} {Kc : Act → World → Prop} {rest : List Oper} {W : World} {α : Type}
end MakeCap
end Go.Proofs.YtijldedhcjkhiaaDoor.S
