import Derived.Test.YtijldedhcjkhiaaDoorProg
import Derived.Below
import Derived.Deep.Draws
import Derived.Deep.AppendLies
import Derived.Maps.AppendAt
import Derived.OwnWalk
import Derived.Laws.BytesArg
import Derived.Laws.MakeOwn
import Derived.Laws.OwnMore
import Derived.Deep.OwnRows
import Derived.Tactics
import Derived.Lib.ConvBytes
import Derived.Laws.Slices
import Derived.WalkKit
import Derived.KernelRfl
import Derived.RowKit3
import Derived.Deep.LoopGhost
import Derived.Deep.QuietTactic
import Derived.BigQuiet
import Derived.WideLaws
import Derived.Deep.DeepCutAuto
import Derived.Deep.CutBlock
import Derived.Deep.RegionHeld3
import Derived.Laws.Rows
import Derived.Lib.AppendStr
import Derived.ArgAppend
import Derived.Laws.IdiomCopy
import Derived.OrdersHeld
import Derived.Laws.BitsLemmas
import Derived.RowKit
import Derived.Lib.TrailingZeros
import Derived.Laws.Bits64b
import Derived.Lib.BitFns
import Derived.Lib.Strings
import Derived.Lib.Slices
import Derived.Lib.Small
import Derived.Lib.Walk
import Derived.Test.YtijldedhcjkhiaaDoorSWWords
import Derived.Test.YtijldedhcjkhiaaDoorSWLast
import Derived.Test.YtijldedhcjkhiaaDoorSWTab
import Derived.Test.YtijldedhcjkhiaaDoorSWFour
import Derived.Test.YtijldedhcjkhiaaDoorSWQPut
import Derived.Test.YtijldedhcjkhiaaDoorSWApart
import Derived.Test.YtijldedhcjkhiaaDoorSWArr
import Derived.Test.YtijldedhcjkhiaaDoorSWZeros
import Derived.Test.YtijldedhcjkhiaaDoorSWFoot
import Derived.Test.YtijldedhcjkhiaaDoorSWKept
import Derived.Test.YtijldedhcjkhiaaDoorSWShare
import Derived.Test.YtijldedhcjkhiaaDoorSWN
import Derived.Test.YtijldedhcjkhiaaDoorSWFootNe
import Derived.Test.YtijldedhcjkhiaaDoorSWAt
import Derived.Test.YtijldedhcjkhiaaDoorSWEqStruct
import Derived.Test.YtijldedhcjkhiaaDoorSWRepsOne
import Derived.Test.YtijldedhcjkhiaaDoorSWInv
import Derived.Test.YtijldedhcjkhiaaDoorSWInvWords
import Derived.Test.YtijldedhcjkhiaaDoorSWGuard
import Derived.Test.YtijldedhcjkhiaaDoorSWNEv
import Derived.Test.YtijldedhcjkhiaaDoorSWMore
namespace Go.Proofs.YtijldedhcjkhiaaDoor.X
open Go.RowKit Go.Proofs.YtijldedhcjkhiaaDoorW.PrintWords Go.Proofs.YtijldedhcjkhiaaDoorW.PrintLast Go.Proofs.YtijldedhcjkhiaaDoorW.PrintMore
attribute [local go_sem] max2_int min2_int max_two min_two max_three min_three max_four min_four   -- for this text's walks alone
set_option linter.unusedVariables false
set_option linter.unusedSimpArgs false
def errT (c : Int) : TypeId := if c = 1 then 177 else 193
def errU (c : Int) (q : Nat) (v1 v2 : Value) : Value := if c = 1 then .agg #[v2, v1] else .pointer (some ⟨q, 0, none⟩)
def errP : (Nat × Option Int) × Value × Value → Value
  | ((_, none), _, _) => .nilIface
  | ((q, some c), v1, v2) => .iface (errT c) (errU c q v1 v2)
theorem errW_none (q : Nat) (v1 v2 : Value) : errP ((q, none), v1, v2) = .nilIface := rfl
theorem errW_some (q : Nat) (c : Int) (v1 v2 : Value) : errP ((q, some c), v1, v2) = .iface (errT c) (errU c q v1 v2) := rfl
theorem errT_one {c : Int} (h : c = 1) : errT c = 177 := if_pos h
theorem errT_ne {c : Int} (h : ¬ c = 1) : errT c = 193 := if_neg h
theorem errU_one {c : Int} (h : c = 1) (q : Nat) (v1 v2 : Value) : errU c q v1 v2 = .agg #[v2, v1] := if_pos h
theorem errU_ne {c : Int} (h : ¬ c = 1) (q : Nat) (v1 v2 : Value) : errU c q v1 v2 = .pointer (some ⟨q, 0, none⟩) := if_neg h
theorem info5 : (Tryd.prog.info? 5).map (fun i => (i.zero, i.size, i.bytes)) = some (some (.int .u8 0), 1, 1) := by kernel_rfl
theorem info34 : (Tryd.prog.info? 34).map (fun i => (i.zero, i.size, i.bytes)) = some (some (.agg #[(.int .u64 0), (.int .u64 0)]), 2, 16) := by kernel_rfl
theorem info42 : (Tryd.prog.info? 42).map (fun i => (i.zero, i.size, i.bytes)) = some (some (.slice none 0 0), 1, 24) := by kernel_rfl
structure S70 where
  f0 : Int
  f1 : Int
def z70 : S70 := ⟨(0 : Int), (0 : Int)⟩
def rd_T70 (xs : List S70) (i : Int) : S70 := xs.getD i.toNat z70
structure S107 where
  f0 : Int
  f1 : Int
def z107 : S107 := ⟨(0 : Int), (0 : Int)⟩
def rd_T107 (xs : List S107) (i : Int) : S107 := xs.getD i.toNat z107
def rd_L4 (xs : List (List Int)) (i : Int) : (List Int) := xs.getD i.toNat ([] : List Int)
theorem at_L4 {w : World} {A : Option Addr} {n : Nat} {xs : List (List Int)} (h : Kd.C (Kd.slice 5 (Kd.int .u8)) w A n xs) (i : Int) (h0 : 0 ≤ i) (h1 : i < n) : ∃ ad A0 c0, A = some ad ∧ w.cell? (ad.add i.toNat) = some (.slice A0 (rd_L4 xs i).length c0) ∧ (rd_L4 xs i).length ≤ c0 ∧ (Kd.int .u8).C w A0 (rd_L4 xs i).length (rd_L4 xs i) := by
  obtain ⟨ad, c, e, _, hK, hc0⟩ := Kd.C_get h ([] : List Int) i h0 h1
  have hc : ∀ j u, c[j]? = some u → w.cell? (ad.add (i.toNat * 1 + j)) = some u := hc0
  obtain ⟨A0, c0, rfl, l0, g0⟩ := hK
  exact ⟨ad, A0, c0, e, by have hq := hc 0 _ rfl; rwa [Nat.mul_one, Nat.add_zero] at hq, l0, g0⟩
structure S88 where
  f0 : S70
  f1 : (List Int)
def z88 : S88 := ⟨z70, ([] : List Int)⟩
def rd_T88 (xs : List S88) (i : Int) : S88 := xs.getD i.toNat z88
structure S34 where
  f0 : Int
  f1 : Int
def k34 : Kd S34 := Kd.iso (Kd.pair (Kd.int .u64) (Kd.int .u64)) (fun x : S34 => (x.f0, x.f1))
theorem k34_mkM (w : World) (base : Nat) (ok : Nat → Prop) (x : S34)  : k34.M w base ok x [.int .u64 x.f0, .int .u64 x.f1] := ⟨[.int .u64 x.f0], [.int .u64 x.f1], rfl, rfl, rfl⟩
theorem sA_ {α : Type} (l : List α) (i : Nat) (a : α) : l.toArray.setIfInBounds i a = (l.set i a).toArray := by simp
theorem sB_ {α : Type} (x : α) (xs : List α) (a : α) : (x :: xs).set 0 a = a :: xs := by simp
theorem sC_ {α : Type} (x : α) (xs : List α) (i : Nat) (a : α) : (x :: xs).set (i + 1) a = x :: xs.set i a := by simp
section
variable {P : Program} {ops : Array Oper} {Q : Exit → Act → World → Prop} {o : Oper} {rest : List Oper} {a : Act} {W : World}
theorem gate_invoke {recv : Operand} {name : String} {as_ : Array Operand} {ts : Array TypeId} (_ho : o.op = .call { callee := .invoke recv name, args := as_, argTypes := ts }) (h : wpList P ops Q (o :: rest) a W) : wpList P ops Q (o :: rest) a W := h
end
theorem invoke_run_ {P : Program} {oi : Oper} {a : Act} {w : World} {f : FuncId} {fn : Func} {recv : Operand} {name : String} {as_ : Array Operand} {ts : Array TypeId} {u : TypeId} {v : Value} (hf : P.funcs[f]? = some fn) (hname : (fn.name == "runtime.NumGoroutine") = false) (hb : fn.body.isSome = true) (rest_ all : Array Value)
    (hop : oi.op = .call { callee := .invoke recv name, args := as_, argTypes := ts }) (hrecv : a.eval recv = .iface u v) (hm : (method (P.types.size + Made.depth) u v name).run P w = .ok (f, v) w) (hargs : as_.map a.eval = rest_) (hall : #[v] ++ rest_ = all) :
    (execOp a.eval oi).run P w = .ok (.enter f all) w := by
  have he := enters_ hf hname hb all w
  subst hall
  subst hargs
  have hX : ∀ X : Array Value, (callFunc f (#[v] ++ X)).run P w = .ok (.enter f (#[v] ++ X)) w → (invoke (.fn (.method name) #[]) (#[.iface u v] ++ X)).run P w = .ok (.enter f (#[v] ++ X)) w := by
    intro X hx
    obtain ⟨l⟩ := X
    simp [invoke, callMethod, hm] at hx ⊢
    exact hx
  unfold execOp
  simp [hop, resolve, hrecv]
  exact hX _ he
theorem goesLI_ {P : Program} {ops : Array Oper} {Q : Exit → Act → World → Prop} {rest : List Oper} {oi : Oper} {a : Act} {w : World} (N : Option Tmp) (hd : oi.dst = N) (hg : oi.guard = none) {f : FuncId} {fn : Func} {recv : Operand} {name : String} {as_ : Array Operand} {ts : Array TypeId} {u : TypeId} {v : Value} (hf : P.funcs[f]? = some fn) (hname : (fn.name == "runtime.NumGoroutine") = false) (hb : fn.body.isSome = true) (rest_ all : Array Value)
    (hop : oi.op = .call { callee := .invoke recv name, args := as_, argTypes := ts }) (hrecv : a.eval recv = .iface u v) (hm : (method (P.types.size + Made.depth) u v name).run P w = .ok (f, v) w) (hargs : as_.map a.eval = rest_) (hall : #[v] ++ rest_ = all)
    (h : Calls P f all w fun e w' => ∃ v, e = .returned v ∧ wpList P ops Q rest (a.put N v) w') : wpList P ops Q (oi :: rest) a w := by
  refine wpList_plain hg fun K hK => ?_
  have hrun := invoke_run_ hf hname hb rest_ all hop hrecv hm hargs hall
  unfold Oper.wp
  rw [hrun, Oper.upon_enter]
  refine h.mono fun e w'' hh => ?_
  obtain ⟨v, rfl, hk⟩ := hh
  subst hd
  exact hK _ _ hk
theorem inv68 (v : Value) (w : World) : (method (Tryd.prog.types.size + Made.depth) 114 v "HashChildren").run Tryd.prog w = .ok (68, v) w := by kernel_rfl
structure GlobT (w : World) : Prop where mk :: (out : ∀ j, j < 64 → w.cell? ⟨0, j, none⟩ = some (.int .u8 ((Lib.deBruijn64tab.getD j 0 : Nat) : Int)))
theorem GlobT.below {w w' : World} (h : GlobT w) (hb : Below w.heap.size w w') : GlobT w' := ⟨fun j hj => pw_cell_below hb (h.out j hj)⟩
theorem GlobT.drewN {w : World} (h : GlobT w) (n : Nat) : GlobT (w.drewN n) := ⟨h.out⟩
theorem GlobT.drew {w : World} (h : GlobT w) : GlobT w.drew := ⟨h.out⟩
section MakeCap
variable {P : Program} {ops : Array Oper} {o : Oper} {a : Act} {Q : Exit → Act → World → Prop} {Kc : Act → World → Prop} {rest : List Oper} {W : World} {α : Type}
end MakeCap
end Go.Proofs.YtijldedhcjkhiaaDoor.X
