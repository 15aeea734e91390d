-- laid by xprint.py (a program of this session over the kit's print); Lean checks it
import Derived.Test.YtijldedhcjkhiaaProg
import Derived.Below
import Derived.Deep.Draws
import Derived.Deep.AppendLies
import Derived.Maps.AppendAt
import Derived.OwnWalk
import Derived.Laws.BytesArg
import Derived.Laws.MakeOwn
import Derived.Laws.OwnMore
import Derived.Deep.OwnRows
import Derived.Tactics
import Derived.Lib.ConvBytes
import Derived.Laws.Slices
import Derived.WalkKit
import Derived.KernelRfl
import Derived.RowKit3
import Derived.Deep.LoopGhost
import Derived.Deep.QuietTactic
import Derived.BigQuiet
import Derived.WideLaws
import Derived.Deep.DeepCutAuto
import Derived.Deep.CutBlock
import Derived.Deep.RegionHeld3
import Derived.Laws.Rows
import Derived.Lib.AppendStr
import Derived.ArgAppend
import Derived.Laws.IdiomCopy
import Derived.OrdersHeld
import Derived.Laws.BitsLemmas
import Derived.RowKit
import Derived.Lib.TrailingZeros
import Derived.Laws.Bits64b
import Derived.Lib.BitFns
import Derived.Lib.Strings
import Derived.Lib.Slices
import Derived.Lib.Small
import Derived.Lib.Walk
import Derived.Test.YtijldedhcjkhiaaWWords
import Derived.Test.YtijldedhcjkhiaaWLast
import Derived.Test.YtijldedhcjkhiaaWTab
import Derived.Test.YtijldedhcjkhiaaWFour
import Derived.Test.YtijldedhcjkhiaaWQPut
import Derived.Test.YtijldedhcjkhiaaWApart
import Derived.Test.YtijldedhcjkhiaaWArr
import Derived.Test.YtijldedhcjkhiaaWZeros
import Derived.Test.YtijldedhcjkhiaaWFoot
import Derived.Test.YtijldedhcjkhiaaWKept
import Derived.Test.YtijldedhcjkhiaaWShare
import Derived.Test.YtijldedhcjkhiaaWN
import Derived.Test.YtijldedhcjkhiaaWFootNe
import Derived.Test.YtijldedhcjkhiaaWAt
import Derived.Test.YtijldedhcjkhiaaWEqStruct
import Derived.Test.YtijldedhcjkhiaaWRepsOne
import Derived.Test.YtijldedhcjkhiaaWInv
import Derived.Test.YtijldedhcjkhiaaWInvWords
import Derived.Test.YtijldedhcjkhiaaWGuard
import Derived.Test.YtijldedhcjkhiaaWNEv
import Derived.Test.YtijldedhcjkhiaaWMore
namespace Go.Proofs.Ytijldedhcjkhiaa.X
open Go.RowKit Go.Proofs.YtijldedhcjkhiaaW.PrintWords Go.Proofs.YtijldedhcjkhiaaW.PrintLast Go.Proofs.YtijldedhcjkhiaaW.PrintMore
attribute [local go_sem] max2_int min2_int max_two min_two max_three min_three max_four min_four   -- for this text's walks alone
set_option linter.unusedVariables false
set_option linter.unusedSimpArgs false



def errW (q : Nat) : Option Int → Value
  | none => .nilIface
  | some _ => .iface 61 (.pointer (some ⟨q, 0, none⟩))
theorem errW_none (q : Nat) : errW q none = .nilIface := rfl
theorem errW_some (q : Nat) (c : Int) : errW q (some c) = .iface 61 (.pointer (some ⟨q, 0, none⟩)) := rfl

theorem info5 : (Try.prog.info? 5).map (fun i => (i.zero, i.size, i.bytes)) = some (some (.int .u8 0), 1, 1) := by kernel_rfl
theorem info25 : (Try.prog.info? 25).map (fun i => (i.zero, i.size, i.bytes)) = some (some (.slice none 0 0), 1, 24) := by kernel_rfl
theorem info49 : (Try.prog.info? 49).map (fun i => (i.zero, i.size, i.bytes)) = some (some (.agg #[(.int .u64 0), (.int .u64 0)]), 2, 16) := by kernel_rfl
-- the values' own types
def rd_L1 (xs : List (List Int)) (i : Int) : (List Int) := xs.getD i.toNat ([] : List Int)
theorem at_L1 {w : World} {A : Option Addr} {n : Nat} {xs : List (List Int)} (h : Kd.C (Kd.slice 5 (Kd.int .u8)) w A n xs) (i : Int) (h0 : 0 ≤ i) (h1 : i < n) : ∃ ad A0 c0, A = some ad ∧ w.cell? (ad.add i.toNat) = some (.slice A0 (rd_L1 xs i).length c0) ∧ (rd_L1 xs i).length ≤ c0 ∧ (Kd.int .u8).C w A0 (rd_L1 xs i).length (rd_L1 xs i) := by
  obtain ⟨ad, c, e, _, hK, hc0⟩ := Kd.C_get h ([] : List Int) i h0 h1
  have hc : ∀ j u, c[j]? = some u → w.cell? (ad.add (i.toNat * 1 + j)) = some u := hc0
  obtain ⟨A0, c0, rfl, l0, g0⟩ := hK
  exact ⟨ad, A0, c0, e, by have hq := hc 0 _ rfl; rwa [Nat.mul_one, Nat.add_zero] at hq, l0, g0⟩

/-! #### struct type 49 -/
structure S49 where
  f0 : Int
  f1 : Int
def z49 : S49 := ⟨(0 : Int), (0 : Int)⟩
def k49 : Kd S49 := Kd.iso (Kd.pair (Kd.int .u64) (Kd.int .u64)) (fun x : S49 => (x.f0, x.f1))
theorem k49_heap : Kd.Heap k49 := Kd.heap_iso _ (Kd.heap_pair (Kd.heap_int .u64) (Kd.heap_int .u64))
theorem k49_open {w : World} {x : S49} {cs : List Value} (h : k49.K w x cs) : cs = [.int .u64 x.f0, .int .u64 x.f1] := by
  obtain ⟨_, _, rfl, rfl, rfl⟩ := h
  exact rfl
theorem k49_openM {w : World} {base : Nat} {ok : Nat → Prop} {x : S49} {cs : List Value} (h : k49.M w base ok x cs) : cs = [.int .u64 x.f0, .int .u64 x.f1] := by
  obtain ⟨_, _, rfl, rfl, rfl⟩ := h
  exact rfl
theorem k49_mk (w : World) (x : S49)  : k49.K w x [.int .u64 x.f0, .int .u64 x.f1] := ⟨[.int .u64 x.f0], [.int .u64 x.f1], rfl, rfl, rfl⟩
theorem k49_mkM (w : World) (base : Nat) (ok : Nat → Prop) (x : S49)  : k49.M w base ok x [.int .u64 x.f0, .int .u64 x.f1] := ⟨[.int .u64 x.f0], [.int .u64 x.f1], rfl, rfl, rfl⟩
theorem k49_mkF (W : World) (ok : Nat → Prop) (x : S49) : Kd.FK k49 W ok x [.int .u64 x.f0, .int .u64 x.f1] := fun W2 _ => k49_mk W2 x
def rd_T49 (xs : List S49) (i : Int) : S49 := xs.getD i.toNat z49
theorem at_T49 {w : World} {A : Option Addr} {n : Nat} {xs : List S49} (h : Kd.C k49 w A n xs) (i : Int) (h0 : 0 ≤ i) (h1 : i < n) : ∃ ad , A = some ad ∧ w.cell? (ad.add (i.toNat * 2)) = some (.int .u64 (rd_T49 xs i).f0) ∧ w.cell? ⟨(ad.add (i.toNat * 2)).block, (ad.add (i.toNat * 2)).off + 1, none⟩ = some (.int .u64 (rd_T49 xs i).f1) := by
  obtain ⟨ad, c, e, _, hK, hc0⟩ := Kd.C_get h z49 i h0 h1
  have hc : ∀ j u, c[j]? = some u → w.cell? (ad.add (i.toNat * 2 + j)) = some u := hc0
  obtain rfl := k49_open hK
  exact ⟨ad, e, hc 0 _ rfl, by rw [← add_field _ _ 1 (by omega)]; exact hc 1 _ rfl⟩

theorem sA_ {α : Type} (l : List α) (i : Nat) (a : α) : l.toArray.setIfInBounds i a = (l.set i a).toArray := by simp
theorem sB_ {α : Type} (x : α) (xs : List α) (a : α) : (x :: xs).set 0 a = a :: xs := by simp
theorem sC_ {α : Type} (x : α) (xs : List α) (i : Nat) (a : α) : (x :: xs).set (i + 1) a = x :: xs.set i a := by simp
section
variable {P : Program} {ops : Array Oper} {Q : Exit → Act → World → Prop} {o : Oper} {rest : List Oper} {a : Act} {W : World}
/-- The operation is a call of this method through an interface. -/
theorem gate_invoke {recv : Operand} {name : String} {as_ : Array Operand} {ts : Array TypeId} (_ho : o.op = .call { callee := .invoke recv name, args := as_, argTypes := ts }) (h : wpList P ops Q (o :: rest) a W) : wpList P ops Q (o :: rest) a W := h
end
theorem invoke_run_ {P : Program} {oi : Oper} {a : Act} {w : World} {f : FuncId} {fn : Func} {recv : Operand} {name : String} {as_ : Array Operand} {ts : Array TypeId} {u : TypeId} {v : Value} (hf : P.funcs[f]? = some fn) (hname : (fn.name == "runtime.NumGoroutine") = false) (hb : fn.body.isSome = true) (rest_ all : Array Value)
    (hop : oi.op = .call { callee := .invoke recv name, args := as_, argTypes := ts }) (hrecv : a.eval recv = .iface u v) (hm : (method (P.types.size + Made.depth) u v name).run P w = .ok (f, v) w) (hargs : as_.map a.eval = rest_) (hall : #[v] ++ rest_ = all) :
    (execOp a.eval oi).run P w = .ok (.enter f all) w := by
  have he := enters_ hf hname hb all w
  subst hall
  subst hargs
  have hX : ∀ X : Array Value, (callFunc f (#[v] ++ X)).run P w = .ok (.enter f (#[v] ++ X)) w → (invoke (.fn (.method name) #[]) (#[.iface u v] ++ X)).run P w = .ok (.enter f (#[v] ++ X)) w := by
    intro X hx
    obtain ⟨l⟩ := X
    simp [invoke, callMethod, hm] at hx ⊢
    exact hx
  unfold execOp
  simp [hop, resolve, hrecv]
  exact hX _ he
/-- A method's call through an interface in a plain region, as an arm of go_wp2_with. -/
theorem goesLI_ {P : Program} {ops : Array Oper} {Q : Exit → Act → World → Prop} {rest : List Oper} {oi : Oper} {a : Act} {w : World} (N : Option Tmp) (hd : oi.dst = N) (hg : oi.guard = none) {f : FuncId} {fn : Func} {recv : Operand} {name : String} {as_ : Array Operand} {ts : Array TypeId} {u : TypeId} {v : Value} (hf : P.funcs[f]? = some fn) (hname : (fn.name == "runtime.NumGoroutine") = false) (hb : fn.body.isSome = true) (rest_ all : Array Value)
    (hop : oi.op = .call { callee := .invoke recv name, args := as_, argTypes := ts }) (hrecv : a.eval recv = .iface u v) (hm : (method (P.types.size + Made.depth) u v name).run P w = .ok (f, v) w) (hargs : as_.map a.eval = rest_) (hall : #[v] ++ rest_ = all)
    (h : Calls P f all w fun e w' => ∃ v, e = .returned v ∧ wpList P ops Q rest (a.put N v) w') : wpList P ops Q (oi :: rest) a w := by
  refine wpList_plain hg fun K hK => ?_
  have hrun := invoke_run_ hf hname hb rest_ all hop hrecv hm hargs hall
  unfold Oper.wp
  rw [hrun, Oper.upon_enter]
  refine h.mono fun e w'' hh => ?_
  obtain ⟨v, rfl, hk⟩ := hh
  subst hd
  exact hK _ _ hk
/-- The same as one step of a region that draws its order. -/
theorem goesI_ {P : Program} {ops : Array Oper} {Q : Exit → Act → World → Prop} {oi : Oper} {N : Option Tmp} {a : Act} {w : World} {K : Act → World → Prop} {f : FuncId} {fn : Func} {recv : Operand} {name : String} {as_ : Array Operand} {ts : Array TypeId} {u : TypeId} {v : Value} (hf : P.funcs[f]? = some fn) (hname : (fn.name == "runtime.NumGoroutine") = false) (hb : fn.body.isSome = true) (rest_ all : Array Value)
    (hw : Region.wanted oi (yielded ops a.tmps) = true) (hN : oi.dst = N) (hop : oi.op = .call { callee := .invoke recv name, args := as_, argTypes := ts }) (hrecv : a.eval recv = .iface u v) (hm : (method (P.types.size + Made.depth) u v name).run P w = .ok (f, v) w) (hargs : as_.map a.eval = rest_) (hall : #[v] ++ rest_ = all)
    (h : Calls P f all w fun e w' => ∃ v, e = .returned v ∧ K (a.put N v) w') : if Region.wanted oi (yielded ops a.tmps) = true then Oper.wp P oi a w K Q else K (a.put N undef) w :=
  call_ f all hw hN (invoke_run_ hf hname hb rest_ all hop hrecv hm hargs hall) h

theorem inv55 (v : Value) (w : World) : (method (Try.prog.types.size + Made.depth) 40 v "EmptyRoot").run Try.prog w = .ok (55, v) w := by kernel_rfl
theorem inv56 (v : Value) (w : World) : (method (Try.prog.types.size + Made.depth) 40 v "HashLeaf").run Try.prog w = .ok (56, v) w := by kernel_rfl
theorem inv49 (v : Value) (w : World) : (method (Try.prog.types.size + Made.depth) 40 v "HashChildren").run Try.prog w = .ok (49, v) w := by kernel_rfl
theorem inv50 (v : Value) (w : World) : (method (Try.prog.types.size + Made.depth) 40 v "Size").run Try.prog w = .ok (50, v) w := by kernel_rfl
end Go.Proofs.Ytijldedhcjkhiaa.X
