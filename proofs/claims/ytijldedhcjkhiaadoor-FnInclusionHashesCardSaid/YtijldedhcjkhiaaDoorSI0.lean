import Derived.Test.YtijldedhcjkhiaaDoorProg
import Derived.Below
import Derived.Deep.Draws
import Derived.Deep.AppendLies
import Derived.Maps.AppendAt
import Derived.OwnWalk
import Derived.Laws.BytesArg
import Derived.Laws.MakeOwn
import Derived.Laws.OwnMore
import Derived.Deep.OwnRows
import Derived.Tactics
import Derived.Lib.ConvBytes
import Derived.Laws.Slices
import Derived.WalkKit
import Derived.KernelRfl
import Derived.RowKit3
import Derived.Deep.LoopGhost
import Derived.Deep.QuietTactic
import Derived.BigQuiet
import Derived.WideLaws
import Derived.Deep.DeepCutAuto
import Derived.Deep.CutBlock
import Derived.Deep.RegionHeld3
import Derived.Laws.Rows
import Derived.Lib.AppendStr
import Derived.ArgAppend
import Derived.Laws.IdiomCopy
import Derived.OrdersHeld
import Derived.Laws.BitsLemmas
import Derived.RowKit
import Derived.Lib.TrailingZeros
import Derived.Laws.Bits64b
import Derived.Lib.BitFns
import Derived.Lib.Strings
import Derived.Lib.Slices
import Derived.Lib.Small
import Derived.Lib.Walk
import Derived.Test.YtijldedhcjkhiaaDoorSWWords
import Derived.Test.YtijldedhcjkhiaaDoorSWLast
import Derived.Test.YtijldedhcjkhiaaDoorSWTab
import Derived.Test.YtijldedhcjkhiaaDoorSWFour
import Derived.Test.YtijldedhcjkhiaaDoorSWQPut
import Derived.Test.YtijldedhcjkhiaaDoorSWApart
import Derived.Test.YtijldedhcjkhiaaDoorSWArr
import Derived.Test.YtijldedhcjkhiaaDoorSWZeros
import Derived.Test.YtijldedhcjkhiaaDoorSWFoot
import Derived.Test.YtijldedhcjkhiaaDoorSWKept
import Derived.Test.YtijldedhcjkhiaaDoorSWShare
import Derived.Test.YtijldedhcjkhiaaDoorSWN
import Derived.Test.YtijldedhcjkhiaaDoorSWFootNe
import Derived.Test.YtijldedhcjkhiaaDoorSWAt
import Derived.Test.YtijldedhcjkhiaaDoorSWEqStruct
import Derived.Test.YtijldedhcjkhiaaDoorSWRepsOne
import Derived.Test.YtijldedhcjkhiaaDoorSWInv
import Derived.Test.YtijldedhcjkhiaaDoorSWInvWords
import Derived.Test.YtijldedhcjkhiaaDoorSWGuard
import Derived.Test.YtijldedhcjkhiaaDoorSWNEv
import Derived.Test.YtijldedhcjkhiaaDoorSWMore
namespace Go.Proofs.YtijldedhcjkhiaaDoor.I
open Go.RowKit Go.Proofs.YtijldedhcjkhiaaDoorW.PrintWords Go.Proofs.YtijldedhcjkhiaaDoorW.PrintLast Go.Proofs.YtijldedhcjkhiaaDoorW.PrintMore
attribute [local go_sem] max2_int min2_int max_two min_two max_three min_three max_four min_four   -- for this text's walks alone
set_option linter.unusedVariables false
set_option linter.unusedSimpArgs false
def errT (c : Int) : TypeId := if c = 1 then 177 else 193
def errU (c : Int) (q : Nat) (v1 v2 : Value) : Value := if c = 1 then .agg #[v2, v1] else .pointer (some ⟨q, 0, none⟩)
def errP : (Nat × Option Int) × Value × Value → Value
 | ((_, none), _, _) => .nilIface
 | ((q, some c), v1, v2) => .iface (errT c) (errU c q v1 v2)
theorem errW_none (q : Nat) (v1 v2 : Value) : errP ((q, none), v1, v2) = .nilIface := rfl
theorem errW_some (q : Nat) (c : Int) (v1 v2 : Value) : errP ((q, some c), v1, v2) = .iface (errT c) (errU c q v1 v2) := rfl
theorem info5 : (Tryd.prog.info? 5).map (fun i => (i.zero, i.size, i.bytes)) = some (some (.int .u8 0), 1, 1) := by kernel_rfl
theorem info34 : (Tryd.prog.info? 34).map (fun i => (i.zero, i.size, i.bytes)) = some (some (.agg #[(.int .u64 0), (.int .u64 0)]), 2, 16) := by kernel_rfl
theorem info42 : (Tryd.prog.info? 42).map (fun i => (i.zero, i.size, i.bytes)) = some (some (.slice none 0 0), 1, 24) := by kernel_rfl
theorem info70 : (Tryd.prog.info? 70).map (fun i => (i.zero, i.size, i.bytes)) = some (some (.agg #[(.int .u64 0), (.int .u64 0)]), 2, 16) := by kernel_rfl
theorem info107 : (Tryd.prog.info? 107).map (fun i => (i.zero, i.size, i.bytes)) = some (some (.agg #[(.int .u64 0), (.int .u64 0)]), 2, 16) := by kernel_rfl
def rd_L1 (xs : List (List Int)) (i : Int) : (List Int) := xs.getD i.toNat ([] : List Int)
theorem at_L1 {w : World} {A : Option Addr} {n : Nat} {xs : List (List Int)} (h : Kd.C (Kd.slice 5 (Kd.int .u8)) w A n xs) (i : Int) (h0 : 0 ≤ i) (h1 : i < n) : ∃ ad A0 c0, A = some ad ∧ w.cell? (ad.add i.toNat) = some (.slice A0 (rd_L1 xs i).length c0) ∧ (rd_L1 xs i).length ≤ c0 ∧ (Kd.int .u8).C w A0 (rd_L1 xs i).length (rd_L1 xs i) := by
 obtain ⟨ad, c, e, _, hK, hc0⟩ := Kd.C_get h ([] : List Int) i h0 h1
 have hc : ∀ j u, c[j]? = some u → w.cell? (ad.add (i.toNat * 1 + j)) = some u := hc0
 obtain ⟨A0, c0, rfl, l0, g0⟩ := hK
 exact ⟨ad, A0, c0, e, by have hq := hc 0 _ rfl; rwa [Nat.mul_one, Nat.add_zero] at hq, l0, g0⟩
structure S107 where
 f0 : Int
 f1 : Int
def z107 : S107 := ⟨(0 : Int), (0 : Int)⟩
def k107 : Kd S107 := Kd.iso (Kd.pair (Kd.int .u64) (Kd.int .u64)) (fun x : S107 => (x.f0, x.f1))
theorem k107_openM {w : World} {base : Nat} {ok : Nat → Prop} {x : S107} {cs : List Value} (h : k107.M w base ok x cs) : cs = [.int .u64 x.f0, .int .u64 x.f1] := by
 obtain ⟨_, _, rfl, rfl, rfl⟩ := h
 exact rfl
theorem k107_mkM (w : World) (base : Nat) (ok : Nat → Prop) (x : S107)  : k107.M w base ok x [.int .u64 x.f0, .int .u64 x.f1] := ⟨[.int .u64 x.f0], [.int .u64 x.f1], rfl, rfl, rfl⟩
def rd_T107 (xs : List S107) (i : Int) : S107 := xs.getD i.toNat z107
structure S34 where
 f0 : Int
 f1 : Int
def z34 : S34 := ⟨(0 : Int), (0 : Int)⟩
def k34 : Kd S34 := Kd.iso (Kd.pair (Kd.int .u64) (Kd.int .u64)) (fun x : S34 => (x.f0, x.f1))
theorem k34_open {w : World} {x : S34} {cs : List Value} (h : k34.K w x cs) : cs = [.int .u64 x.f0, .int .u64 x.f1] := by
 obtain ⟨_, _, rfl, rfl, rfl⟩ := h
 exact rfl
theorem k34_mkM (w : World) (base : Nat) (ok : Nat → Prop) (x : S34)  : k34.M w base ok x [.int .u64 x.f0, .int .u64 x.f1] := ⟨[.int .u64 x.f0], [.int .u64 x.f1], rfl, rfl, rfl⟩
def rd_T34 (xs : List S34) (i : Int) : S34 := xs.getD i.toNat z34
theorem at_T34 {w : World} {A : Option Addr} {n : Nat} {xs : List S34} (h : Kd.C k34 w A n xs) (i : Int) (h0 : 0 ≤ i) (h1 : i < n) : ∃ ad , A = some ad ∧ w.cell? (ad.add (i.toNat * 2)) = some (.int .u64 (rd_T34 xs i).f0) ∧ w.cell? ⟨(ad.add (i.toNat * 2)).block, (ad.add (i.toNat * 2)).off + 1, none⟩ = some (.int .u64 (rd_T34 xs i).f1) := by
 obtain ⟨ad, c, e, _, hK, hc0⟩ := Kd.C_get h z34 i h0 h1
 have hc : ∀ j u, c[j]? = some u → w.cell? (ad.add (i.toNat * 2 + j)) = some u := hc0
 obtain rfl := k34_open hK
 exact ⟨ad, e, hc 0 _ rfl, by rw [← add_field _ _ 1 (by omega)]; exact hc 1 _ rfl⟩
structure S70 where
 f0 : Int
 f1 : Int
def z70 : S70 := ⟨(0 : Int), (0 : Int)⟩
def k70 : Kd S70 := Kd.iso (Kd.pair (Kd.int .u64) (Kd.int .u64)) (fun x : S70 => (x.f0, x.f1))
theorem k70_open {w : World} {x : S70} {cs : List Value} (h : k70.K w x cs) : cs = [.int .u64 x.f0, .int .u64 x.f1] := by
 obtain ⟨_, _, rfl, rfl, rfl⟩ := h
 exact rfl
theorem k70_mkM (w : World) (base : Nat) (ok : Nat → Prop) (x : S70)  : k70.M w base ok x [.int .u64 x.f0, .int .u64 x.f1] := ⟨[.int .u64 x.f0], [.int .u64 x.f1], rfl, rfl, rfl⟩
def rd_T70 (xs : List S70) (i : Int) : S70 := xs.getD i.toNat z70
theorem at_T70 {w : World} {A : Option Addr} {n : Nat} {xs : List S70} (h : Kd.C k70 w A n xs) (i : Int) (h0 : 0 ≤ i) (h1 : i < n) : ∃ ad , A = some ad ∧ w.cell? (ad.add (i.toNat * 2)) = some (.int .u64 (rd_T70 xs i).f0) ∧ w.cell? ⟨(ad.add (i.toNat * 2)).block, (ad.add (i.toNat * 2)).off + 1, none⟩ = some (.int .u64 (rd_T70 xs i).f1) := by
 obtain ⟨ad, c, e, _, hK, hc0⟩ := Kd.C_get h z70 i h0 h1
 have hc : ∀ j u, c[j]? = some u → w.cell? (ad.add (i.toNat * 2 + j)) = some u := hc0
 obtain rfl := k70_open hK
 exact ⟨ad, e, hc 0 _ rfl, by rw [← add_field _ _ 1 (by omega)]; exact hc 1 _ rfl⟩
section
variable {P : Program} {ops : Array Oper} {Q : Exit → Act → World → Prop} {o : Oper} {rest : List Oper} {a : Act} {W : World}
end
section
variable {P : Program} {ops : Array Oper} {Q : Exit → Act → World → Prop} {o : Oper} {rest : List Oper} {a : Act} {W : World}
theorem gate_funcval {t : Tmp} {as_ : Array Operand} {ts : Array TypeId} (_ho : o.op = .call { callee := .value (.tmp t), args := as_, argTypes := ts }) (h : wpList P ops Q (o :: rest) a W) : wpList P ops Q (o :: rest) a W := h
end
theorem funcval_run_ {P : Program} {oi : Oper} {a : Act} {w : World} {f : FuncId} {fn : Func} {t : Operand} {as_ : Array Operand} {ts : Array TypeId} {v : Value} (hf : P.funcs[f]? = some fn) (hname : (fn.name == "runtime.NumGoroutine") = false) (hb : fn.body.isSome = true) (rest_ all : Array Value)
  (hop : oi.op = .call { callee := .value t, args := as_, argTypes := ts }) (hrecv : a.eval t = .func (.func f) #[v] #[]) (hargs : as_.map a.eval = rest_) (hall : #[v] ++ rest_ = all) :
  (execOp a.eval oi).run P w = .ok (.enter f all) w := by
 have he := enters_ hf hname hb all w
 subst hall
 subst hargs
 have hX : ∀ X : Array Value, (callFunc f (#[v] ++ X)).run P w = .ok (.enter f (#[v] ++ X)) w → (invoke (.fn (.func f) #[]) (#[v] ++ X)).run P w = .ok (.enter f (#[v] ++ X)) w := by
  intro X hx
  obtain ⟨l⟩ := X
  simp [invoke] at hx ⊢
  exact hx
 unfold execOp
 simp [hop, resolve, hrecv]
 exact hX _ he
theorem goesLF_ {P : Program} {ops : Array Oper} {Q : Exit → Act → World → Prop} {rest : List Oper} {oi : Oper} {a : Act} {w : World} (N : Option Tmp) (hd : oi.dst = N) (hg : oi.guard = none) {f : FuncId} {fn : Func} {t : Operand} {as_ : Array Operand} {ts : Array TypeId} {v : Value} (hf : P.funcs[f]? = some fn) (hname : (fn.name == "runtime.NumGoroutine") = false) (hb : fn.body.isSome = true) (rest_ all : Array Value)
  (hop : oi.op = .call { callee := .value t, args := as_, argTypes := ts }) (hrecv : a.eval t = .func (.func f) #[v] #[]) (hargs : as_.map a.eval = rest_) (hall : #[v] ++ rest_ = all)
  (h : Calls P f all w fun e w' => ∃ v, e = .returned v ∧ wpList P ops Q rest (a.put N v) w') : wpList P ops Q (oi :: rest) a w := by
 refine wpList_plain hg fun K hK => ?_
 have hrun := funcval_run_ (w := w) hf hname hb rest_ all hop hrecv hargs hall
 unfold Oper.wp
 rw [hrun, Oper.upon_enter]
 refine h.mono fun e w'' hh => ?_
 obtain ⟨v, rfl, hk⟩ := hh
 subst hd
 exact hK _ _ hk
structure GlobT (w : World) : Prop where mk :: (out : ∀ j, j < 64 → w.cell? ⟨0, j, none⟩ = some (.int .u8 ((Lib.deBruijn64tab.getD j 0 : Nat) : Int)))
theorem GlobT.below {w w' : World} (h : GlobT w) (hb : Below w.heap.size w w') : GlobT w' := ⟨fun j hj => pw_cell_below hb (h.out j hj)⟩
theorem GlobT.drewN {w : World} (h : GlobT w) (n : Nat) : GlobT (w.drewN n) := ⟨h.out⟩
theorem GlobT.drew {w : World} (h : GlobT w) : GlobT w.drew := ⟨h.out⟩
section MakeCap
variable {P : Program} {ops : Array Oper} {o : Oper} {a : Act} {Q : Exit → Act → World → Prop} {Kc : Act → World → Prop} {rest : List Oper} {W : World} {α : Type}
theorem R_room (d : Kd α) (base e : Nat) (t : TypeId) (n : Int) (ht : P.underlying t = some (.slice e)) (z : Value) (bytes : Nat) (hinfo : (P.info? e).map (fun i => (i.zero, i.size, i.bytes)) = some (some z, d.sz, bytes)) (hz : z.cells.size = d.sz) (hs0 : 0 < d.sz) (hb0 : 0 < bytes)
  (z0 : α) {ok okp : Nat → Prop} (hzero : d.M W base okp z0 z.cells.toList) (hok : ∀ k, okp k → ok k) (hfresh : ok W.heap.size) (h0 : 0 ≤ n) (hl : n.toNat * bytes ≤ 281474976710656) (hbase : base ≤ W.heap.size) :
  ∃ b : Obj, (Instr.makeSlice t (.int .i64 0) (.int .i64 n)).run P W = .ok (.slice (some ⟨W.heap.size, 0, none⟩) 0 n.toNat) (W.alloc b) ∧ d.R e (W.alloc b) base ok (.slice (some ⟨W.heap.size, 0, none⟩) 0 n.toNat) ([] : List α) := by
 obtain ⟨m, rfl⟩ := Int.eq_ofNat_of_zero_le h0
 simp only [Int.toNat_natCast] at hl ⊢
 obtain ⟨i0, hi, hzz⟩ := Option.map_eq_some_iff.1 hinfo
 simp only [Prod.mk.injEq] at hzz
 obtain ⟨hz0, hz1, hz2⟩ := hzz
 have hm : m ≤ 281474976710656 := Nat.le_trans (Nat.le_mul_of_pos_right _ hb0) hl
 have hr := run_make (P := P) W t e i0 z ht hi hz0 .i64 .i64 0 (m : Int) (by omega) (by omega)
  (by
   have h3 : ((i0.bytes * m : Nat) : Int) ≤ 281474976710656 := by rw [hz2, Nat.mul_comm]; omega
   rwa [Int.natCast_mul] at h3) (by omega)
 simp only [Int.toNat_natCast] at hr
 rw [hz1] at hr
 have hrep := Kd.reps_made hz hs0 hzero m
 have hlen : (List.replicate m z0).length ≤ 9223372036854775807 := by simp; omega
 refine ⟨_, hr, ?_⟩
 have full : d.R e (W.alloc (.cells (madeCells z.cells (m * d.sz)) e)) base ok (.slice (some ⟨W.heap.size, 0, none⟩) m m) (List.replicate m z0) := by
  refine ⟨fun k hk => ?_, (madeCells z.cells (m * d.sz)).toList, ?_, ?_⟩
  ·have : W.heap.size = k := by simpa [Value.ownBlock] using hk
   subst this
   exact hfresh
  ·have h2 := World.ownsRow_lit (base := base) (e := e) (size := d.sz) W (madeCells z.cells (m * d.sz)) (List.replicate m z0).length hbase (by simpa [maxLen] using hlen) (by simpa using hrep.1)
   simpa using h2
  ·refine hrep.imp_ (fun p c hp => d.M_mono (fun k hk => ⟨hok k hk.1, fun he => ?_⟩) (Kd.M_below (d.M_bound hp) (below_alloc (Below.refl _ _) _)))
   have h3 : k = W.heap.size := by simpa [Value.ownBlock] using he
   have := hk.2.2.1
   omega
 exact Kd.R_take full (Nat.zero_le _)
theorem R_makecap_step (d : Kd α) {w0 W : World} (base e : Nat) (hw : Region.wanted o (yielded ops a.tmps) = true) {N : Tmp} (_hd : o.dst = some N) (t : TypeId) (x y : Operand) (ho : o.op = .makeSlice t x y) (n : Int) (hx : a.eval x = .int .i64 0) (hy : a.eval y = .int .i64 n)
  (ht : P.underlying t = some (.slice e)) (z : Value) (bytes : Nat) (hinfo : (P.info? e).map (fun i => (i.zero, i.size, i.bytes)) = some (some z, d.sz, bytes)) (hz : z.cells.size = d.sz) (hs0 : 0 < d.sz) (hb0 : 0 < bytes)
  (z0 : α) {ok okp : Nat → Prop} (hzero : d.M W base okp z0 z.cells.toList) (hok : ∀ k, okp k → ok k) (hfresh : ok W.heap.size) (h0 : 0 ≤ n) (hl : n.toNat * bytes ≤ 281474976710656) (HB : Below base w0 W) (hbase : base ≤ W.heap.size)
  (h : ∀ v1 w1, d.R e w1 base ok v1 ([] : List α) → Below base w0 w1 → W.grownBy w1 none → (∃ b, v1.ownBlock = some b ∧ W.heap.size ≤ b) → Kc (a.put o.dst v1) w1) :
  if Region.wanted o (yielded ops a.tmps) = true then Oper.wp P o a W Kc Q else Kc (a.put o.dst undef) W := by
 obtain ⟨b, hrun, hR⟩ := R_room d base e t n ht z bytes hinfo hz hs0 hb0 z0 hzero hok hfresh h0 hl hbase
 exact event_step hw (by simp [execOp, ho, hx, hy, hrun]) (h _ _ hR (HB.alloc hbase _) (World.grownBy_alloc W _ none) ⟨W.heap.size, by simp [Value.ownBlock], Nat.le_refl _⟩)
end MakeCap
end Go.Proofs.YtijldedhcjkhiaaDoor.I
