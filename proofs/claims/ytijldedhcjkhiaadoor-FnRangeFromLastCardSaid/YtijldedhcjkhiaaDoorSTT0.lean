import Derived.Test.YtijldedhcjkhiaaDoorProg
import Derived.Below
import Derived.Deep.Draws
import Derived.Deep.AppendLies
import Derived.Maps.AppendAt
import Derived.OwnWalk
import Derived.Laws.BytesArg
import Derived.Laws.MakeOwn
import Derived.Laws.OwnMore
import Derived.Deep.OwnRows
import Derived.Tactics
import Derived.Lib.ConvBytes
import Derived.Laws.Slices
import Derived.WalkKit
import Derived.KernelRfl
import Derived.RowKit3
import Derived.Deep.LoopGhost
import Derived.Deep.QuietTactic
import Derived.BigQuiet
import Derived.WideLaws
import Derived.Deep.DeepCutAuto
import Derived.Deep.CutBlock
import Derived.Deep.RegionHeld3
import Derived.Laws.Rows
import Derived.Lib.AppendStr
import Derived.ArgAppend
import Derived.Laws.IdiomCopy
import Derived.OrdersHeld
import Derived.Laws.BitsLemmas
import Derived.RowKit
import Derived.Lib.TrailingZeros
import Derived.Laws.Bits64b
import Derived.Lib.BitFns
import Derived.Lib.Strings
import Derived.Lib.Slices
import Derived.Lib.Small
import Derived.Lib.Walk
import Derived.Test.YtijldedhcjkhiaaDoorSTWWords
import Derived.Test.YtijldedhcjkhiaaDoorSTWLast
import Derived.Test.YtijldedhcjkhiaaDoorSTWTab
import Derived.Test.YtijldedhcjkhiaaDoorSTWFour
import Derived.Test.YtijldedhcjkhiaaDoorSTWQPut
import Derived.Test.YtijldedhcjkhiaaDoorSTWApart
import Derived.Test.YtijldedhcjkhiaaDoorSTWArr
import Derived.Test.YtijldedhcjkhiaaDoorSTWZeros
import Derived.Test.YtijldedhcjkhiaaDoorSTWFoot
import Derived.Test.YtijldedhcjkhiaaDoorSTWKept
import Derived.Test.YtijldedhcjkhiaaDoorSTWShare
import Derived.Test.YtijldedhcjkhiaaDoorSTWN
import Derived.Test.YtijldedhcjkhiaaDoorSTWFootNe
import Derived.Test.YtijldedhcjkhiaaDoorSTWAt
import Derived.Test.YtijldedhcjkhiaaDoorSTWEqStruct
import Derived.Test.YtijldedhcjkhiaaDoorSTWRepsOne
import Derived.Test.YtijldedhcjkhiaaDoorSTWInv
import Derived.Test.YtijldedhcjkhiaaDoorSTWInvWords
import Derived.Test.YtijldedhcjkhiaaDoorSTWGuard
import Derived.Test.YtijldedhcjkhiaaDoorSTWNEv
import Derived.Test.YtijldedhcjkhiaaDoorSTWMore
namespace Go.Proofs.YtijldedhcjkhiaaDoor.T
open Go.RowKit Go.Proofs.YtijldedhcjkhiaaDoorW.PrintWords Go.Proofs.YtijldedhcjkhiaaDoorW.PrintLast Go.Proofs.YtijldedhcjkhiaaDoorW.PrintMore
attribute [local go_sem] max2_int min2_int max_two min_two max_three min_three max_four min_four   -- for this text's walks alone
set_option linter.unusedVariables false
set_option linter.unusedSimpArgs false
def errW (q : Nat) : Option Int → Value
  | none => .nilIface
  | some _ => .iface 193 (.pointer (some ⟨q, 0, none⟩))
theorem errW_none (q : Nat) : errW q none = .nilIface := rfl
theorem errW_some (q : Nat) (c : Int) : errW q (some c) = .iface 193 (.pointer (some ⟨q, 0, none⟩)) := rfl
theorem info5 : (Tryd.prog.info? 5).map (fun i => (i.zero, i.size, i.bytes)) = some (some (.int .u8 0), 1, 1) := by kernel_rfl
theorem info34 : (Tryd.prog.info? 34).map (fun i => (i.zero, i.size, i.bytes)) = some (some (.agg #[(.int .u64 0), (.int .u64 0)]), 2, 16) := by kernel_rfl
theorem info40 : (Tryd.prog.info? 40).map (fun i => (i.zero, i.size, i.bytes)) = some (some (.agg #[(.int .u64 0), (.int .u64 0), (.slice none 0 0)]), 3, 40) := by kernel_rfl
theorem info42 : (Tryd.prog.info? 42).map (fun i => (i.zero, i.size, i.bytes)) = some (some (.slice none 0 0), 1, 24) := by kernel_rfl
theorem info88 : (Tryd.prog.info? 88).map (fun i => (i.zero, i.size, i.bytes)) = some (some (.agg #[(.int .u64 0), (.int .u64 0), (.slice none 0 0)]), 3, 40) := by kernel_rfl
def rd_L1 (xs : List (List Int)) (i : Int) : (List Int) := xs.getD i.toNat ([] : List Int)
theorem at_L1 {w : World} {A : Option Addr} {n : Nat} {xs : List (List Int)} (h : Kd.C (Kd.slice 5 (Kd.int .u8)) w A n xs) (i : Int) (h0 : 0 ≤ i) (h1 : i < n) : ∃ ad A0 c0, A = some ad ∧ w.cell? (ad.add i.toNat) = some (.slice A0 (rd_L1 xs i).length c0) ∧ (rd_L1 xs i).length ≤ c0 ∧ (Kd.int .u8).C w A0 (rd_L1 xs i).length (rd_L1 xs i) := by
  obtain ⟨ad, c, e, _, hK, hc0⟩ := Kd.C_get h ([] : List Int) i h0 h1
  have hc : ∀ j u, c[j]? = some u → w.cell? (ad.add (i.toNat * 1 + j)) = some u := hc0
  obtain ⟨A0, c0, rfl, l0, g0⟩ := hK
  exact ⟨ad, A0, c0, e, by have hq := hc 0 _ rfl; rwa [Nat.mul_one, Nat.add_zero] at hq, l0, g0⟩
structure S34 where
  f0 : Int
  f1 : Int
def k34 : Kd S34 := Kd.iso (Kd.pair (Kd.int .u64) (Kd.int .u64)) (fun x : S34 => (x.f0, x.f1))
theorem k34_mkM (w : World) (base : Nat) (ok : Nat → Prop) (x : S34)  : k34.M w base ok x [.int .u64 x.f0, .int .u64 x.f1] := ⟨[.int .u64 x.f0], [.int .u64 x.f1], rfl, rfl, rfl⟩
structure S70 where
  f0 : Int
  f1 : Int
def k70 : Kd S70 := Kd.iso (Kd.pair (Kd.int .u64) (Kd.int .u64)) (fun x : S70 => (x.f0, x.f1))
theorem k70_mkM (w : World) (base : Nat) (ok : Nat → Prop) (x : S70)  : k70.M w base ok x [.int .u64 x.f0, .int .u64 x.f1] := ⟨[.int .u64 x.f0], [.int .u64 x.f1], rfl, rfl, rfl⟩
structure S88 where
  f0 : S70
  f1 : (List Int)
def k88 : Kd S88 := Kd.iso (Kd.pair k70 (Kd.slice 5 (Kd.int .u8))) (fun x : S88 => (x.f0, x.f1))
theorem k88_mkM (w : World) (base : Nat) (ok : Nat → Prop) (x : S88) {v2 : Value} (g2 : (Kd.int .u8).R 5 w base ok v2 x.f1) : k88.M w base ok x [.int .u64 x.f0.f0, .int .u64 x.f0.f1, v2] := ⟨[.int .u64 x.f0.f0, .int .u64 x.f0.f1], [v2], rfl, (k70_mkM w base ok x.f0 ), ⟨v2, rfl, g2⟩⟩
structure S40 where
  f0 : Int
  f1 : Int
  f2 : (List (List Int))
def z40 : S40 := ⟨(0 : Int), (0 : Int), ([] : List (List Int))⟩
def k40 : Kd S40 := Kd.iso (Kd.pair (Kd.int .u64) (Kd.pair (Kd.int .u64) (Kd.slice 42 (Kd.slice 5 (Kd.int .u8))))) (fun x : S40 => (x.f0, x.f1, x.f2))
theorem k40_open {w : World} {x : S40} {cs : List Value} (h : k40.K w x cs) : ∃ A2 c2, cs = [.int .u64 x.f0, .int .u64 x.f1, .slice A2 x.f2.length c2] ∧ x.f2.length ≤ c2 ∧ (Kd.slice 5 (Kd.int .u8)).C w A2 x.f2.length x.f2 := by
  obtain ⟨_, _, rfl, rfl, ⟨_, _, rfl, rfl, ⟨A2, c2, rfl, l2, g2⟩⟩⟩ := h
  exact ⟨A2, c2, rfl, l2, g2⟩
theorem k40_mk (w : World) (x : S40) {A2 : Option Addr} {c2 : Nat} (l2 : x.f2.length ≤ c2) (g2 : (Kd.slice 5 (Kd.int .u8)).C w A2 x.f2.length x.f2) : k40.K w x [.int .u64 x.f0, .int .u64 x.f1, .slice A2 x.f2.length c2] := ⟨[.int .u64 x.f0], [.int .u64 x.f1, .slice A2 x.f2.length c2], rfl, rfl, ⟨[.int .u64 x.f1], [.slice A2 x.f2.length c2], rfl, rfl, ⟨A2, c2, rfl, l2, g2⟩⟩⟩
theorem k40_openF {W : World} {ok : Nat → Prop} {x : S40} {cs : List Value} (h : Kd.FK k40 W ok x cs) : ∃ A2 c2, cs = [.int .u64 x.f0, .int .u64 x.f1, .slice A2 x.f2.length c2] ∧ x.f2.length ≤ c2 ∧ Kd.F (Kd.slice 5 (Kd.int .u8)) W ok A2 x.f2.length x.f2 := by
  obtain ⟨A2, c2, rfl, l2, _⟩ := k40_open (Kd.FK_now h)
  exact ⟨A2, c2, rfl, l2, (fun W' hW => by obtain ⟨A2_, c2_, he, l2_, g2_⟩ := k40_open (h W' hW); injection (Option.some.inj (show some (Value.slice A2 x.f2.length c2) = some (Value.slice A2_ x.f2.length c2_) from congrArg (fun l => l[2]?) he)) with ha_ _ _; rw [ha_]; exact g2_)⟩
theorem k40_mkF (W : World) (ok : Nat → Prop) (x : S40) {A2 : Option Addr} {c2 : Nat} (l2 : x.f2.length ≤ c2) (g2 : Kd.F (Kd.slice 5 (Kd.int .u8)) W ok A2 x.f2.length x.f2) : Kd.FK k40 W ok x [.int .u64 x.f0, .int .u64 x.f1, .slice A2 x.f2.length c2] := fun W2 hW => k40_mk W2 x l2 (g2 W2 hW)
section
variable {P : Program} {ops : Array Oper} {Q : Exit → Act → World → Prop} {o : Oper} {rest : List Oper} {a : Act} {W : World}
theorem gate_invoke {recv : Operand} {name : String} {as_ : Array Operand} {ts : Array TypeId} (_ho : o.op = .call { callee := .invoke recv name, args := as_, argTypes := ts }) (h : wpList P ops Q (o :: rest) a W) : wpList P ops Q (o :: rest) a W := h
end
theorem invoke_run_ {P : Program} {oi : Oper} {a : Act} {w : World} {f : FuncId} {fn : Func} {recv : Operand} {name : String} {as_ : Array Operand} {ts : Array TypeId} {u : TypeId} {v : Value} (hf : P.funcs[f]? = some fn) (hname : (fn.name == "runtime.NumGoroutine") = false) (hb : fn.body.isSome = true) (rest_ all : Array Value)
    (hop : oi.op = .call { callee := .invoke recv name, args := as_, argTypes := ts }) (hrecv : a.eval recv = .iface u v) (hm : (method (P.types.size + Made.depth) u v name).run P w = .ok (f, v) w) (hargs : as_.map a.eval = rest_) (hall : #[v] ++ rest_ = all) :
    (execOp a.eval oi).run P w = .ok (.enter f all) w := by
  have he := enters_ hf hname hb all w
  subst hall
  subst hargs
  have hX : ∀ X : Array Value, (callFunc f (#[v] ++ X)).run P w = .ok (.enter f (#[v] ++ X)) w → (invoke (.fn (.method name) #[]) (#[.iface u v] ++ X)).run P w = .ok (.enter f (#[v] ++ X)) w := by
    intro X hx
    obtain ⟨l⟩ := X
    simp [invoke, callMethod, hm] at hx ⊢
    exact hx
  unfold execOp
  simp [hop, resolve, hrecv]
  exact hX _ he
theorem goesLI_ {P : Program} {ops : Array Oper} {Q : Exit → Act → World → Prop} {rest : List Oper} {oi : Oper} {a : Act} {w : World} (N : Option Tmp) (hd : oi.dst = N) (hg : oi.guard = none) {f : FuncId} {fn : Func} {recv : Operand} {name : String} {as_ : Array Operand} {ts : Array TypeId} {u : TypeId} {v : Value} (hf : P.funcs[f]? = some fn) (hname : (fn.name == "runtime.NumGoroutine") = false) (hb : fn.body.isSome = true) (rest_ all : Array Value)
    (hop : oi.op = .call { callee := .invoke recv name, args := as_, argTypes := ts }) (hrecv : a.eval recv = .iface u v) (hm : (method (P.types.size + Made.depth) u v name).run P w = .ok (f, v) w) (hargs : as_.map a.eval = rest_) (hall : #[v] ++ rest_ = all)
    (h : Calls P f all w fun e w' => ∃ v, e = .returned v ∧ wpList P ops Q rest (a.put N v) w') : wpList P ops Q (oi :: rest) a w := by
  refine wpList_plain hg fun K hK => ?_
  have hrun := invoke_run_ hf hname hb rest_ all hop hrecv hm hargs hall
  unfold Oper.wp
  rw [hrun, Oper.upon_enter]
  refine h.mono fun e w'' hh => ?_
  obtain ⟨v, rfl, hk⟩ := hh
  subst hd
  exact hK _ _ hk
section
variable {P : Program} {ops : Array Oper} {Q : Exit → Act → World → Prop} {o : Oper} {rest : List Oper} {a : Act} {W : World}
theorem gate_funcval {t : Tmp} {as_ : Array Operand} {ts : Array TypeId} (_ho : o.op = .call { callee := .value (.tmp t), args := as_, argTypes := ts }) (h : wpList P ops Q (o :: rest) a W) : wpList P ops Q (o :: rest) a W := h
end
theorem funcval_run_ {P : Program} {oi : Oper} {a : Act} {w : World} {f : FuncId} {fn : Func} {t : Operand} {as_ : Array Operand} {ts : Array TypeId} {v : Value} (hf : P.funcs[f]? = some fn) (hname : (fn.name == "runtime.NumGoroutine") = false) (hb : fn.body.isSome = true) (rest_ all : Array Value)
    (hop : oi.op = .call { callee := .value t, args := as_, argTypes := ts }) (hrecv : a.eval t = .func (.func f) #[v] #[]) (hargs : as_.map a.eval = rest_) (hall : #[v] ++ rest_ = all) :
    (execOp a.eval oi).run P w = .ok (.enter f all) w := by
  have he := enters_ hf hname hb all w
  subst hall
  subst hargs
  have hX : ∀ X : Array Value, (callFunc f (#[v] ++ X)).run P w = .ok (.enter f (#[v] ++ X)) w → (invoke (.fn (.func f) #[]) (#[v] ++ X)).run P w = .ok (.enter f (#[v] ++ X)) w := by
    intro X hx
    obtain ⟨l⟩ := X
    simp [invoke] at hx ⊢
    exact hx
  unfold execOp
  simp [hop, resolve, hrecv]
  exact hX _ he
theorem goesF_ {P : Program} {ops : Array Oper} {Q : Exit → Act → World → Prop} {oi : Oper} {N : Option Tmp} {a : Act} {w : World} {K : Act → World → Prop} {f : FuncId} {fn : Func} {t : Operand} {as_ : Array Operand} {ts : Array TypeId} {v : Value} (hf : P.funcs[f]? = some fn) (hname : (fn.name == "runtime.NumGoroutine") = false) (hb : fn.body.isSome = true) (rest_ all : Array Value)
    (hw : Region.wanted oi (yielded ops a.tmps) = true) (hN : oi.dst = N) (hop : oi.op = .call { callee := .value t, args := as_, argTypes := ts }) (hrecv : a.eval t = .func (.func f) #[v] #[]) (hargs : as_.map a.eval = rest_) (hall : #[v] ++ rest_ = all)
    (h : Calls P f all w fun e w' => ∃ v, e = .returned v ∧ K (a.put N v) w') : if Region.wanted oi (yielded ops a.tmps) = true then Oper.wp P oi a w K Q else K (a.put N undef) w :=
  call_ f all hw hN (funcval_run_ (w := w) hf hname hb rest_ all hop hrecv hargs hall) h
theorem inv68 (v : Value) (w : World) : (method (Tryd.prog.types.size + Made.depth) 114 v "HashChildren").run Tryd.prog w = .ok (68, v) w := by kernel_rfl
theorem inv155 (v : Value) (w : World) : (method (Tryd.prog.types.size + Made.depth) 114 v "Size").run Tryd.prog w = .ok (155, v) w := by kernel_rfl
structure GlobT (w : World) : Prop where mk :: (out : ∀ j, j < 64 → w.cell? ⟨0, j, none⟩ = some (.int .u8 ((Lib.deBruijn64tab.getD j 0 : Nat) : Int)))
theorem GlobT.below {w w' : World} (h : GlobT w) (hb : Below w.heap.size w w') : GlobT w' := ⟨fun j hj => pw_cell_below hb (h.out j hj)⟩
theorem GlobT.drewN {w : World} (h : GlobT w) (n : Nat) : GlobT (w.drewN n) := ⟨h.out⟩
theorem GlobT.drew {w : World} (h : GlobT w) : GlobT w.drew := ⟨h.out⟩
section MakeCap
variable {P : Program} {ops : Array Oper} {o : Oper} {a : Act} {Q : Exit → Act → World → Prop} {Kc : Act → World → Prop} {rest : List Oper} {W : World} {α : Type}
end MakeCap
end Go.Proofs.YtijldedhcjkhiaaDoor.T
