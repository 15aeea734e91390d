import Derived.Test.YtpeikjnkbjabpaaDoorProg
import Derived.Below
import Derived.Deep.Draws
import Derived.Deep.AppendLies
import Derived.Maps.AppendAt
import Derived.OwnWalk
import Derived.Laws.BytesArg
import Derived.Laws.MakeOwn
import Derived.Laws.OwnMore
import Derived.Deep.OwnRows
import Derived.Tactics
import Derived.Lib.ConvBytes
import Derived.Laws.Slices
import Derived.WalkKit
import Derived.KernelRfl
import Derived.RowKit3
import Derived.Deep.LoopGhost
import Derived.Deep.QuietTactic
import Derived.BigQuiet
import Derived.WideLaws
import Derived.Deep.DeepCutAuto
import Derived.Deep.CutBlock
import Derived.Deep.RegionHeld3
import Derived.Laws.Rows
import Derived.Lib.AppendStr
import Derived.ArgAppend
import Derived.Laws.IdiomCopy
import Derived.OrdersHeld
import Derived.Laws.BitsLemmas
import Derived.RowKit
import Derived.Lib.TrailingZeros
import Derived.Laws.Bits64b
import Derived.Lib.BitFns
import Derived.Lib.Strings
import Derived.Lib.Slices
import Derived.Lib.Small
import Derived.Lib.Walk
import Derived.Test.YtpeikjnkbjabpaaDoorSVWWords
import Derived.Test.YtpeikjnkbjabpaaDoorSVWLast
import Derived.Test.YtpeikjnkbjabpaaDoorSVWTab
import Derived.Test.YtpeikjnkbjabpaaDoorSVWFour
import Derived.Test.YtpeikjnkbjabpaaDoorSVWQPut
import Derived.Test.YtpeikjnkbjabpaaDoorSVWApart
import Derived.Test.YtpeikjnkbjabpaaDoorSVWArr
import Derived.Test.YtpeikjnkbjabpaaDoorSVWZeros
import Derived.Test.YtpeikjnkbjabpaaDoorSVWFoot
import Derived.Test.YtpeikjnkbjabpaaDoorSVWKept
import Derived.Test.YtpeikjnkbjabpaaDoorSVWShare
import Derived.Test.YtpeikjnkbjabpaaDoorSVWN
import Derived.Test.YtpeikjnkbjabpaaDoorSVWFootNe
import Derived.Test.YtpeikjnkbjabpaaDoorSVWAt
import Derived.Test.YtpeikjnkbjabpaaDoorSVWEqStruct
import Derived.Test.YtpeikjnkbjabpaaDoorSVWRepsOne
import Derived.Test.YtpeikjnkbjabpaaDoorSVWInv
import Derived.Test.YtpeikjnkbjabpaaDoorSVWInvWords
import Derived.Test.YtpeikjnkbjabpaaDoorSVWGuard
import Derived.Test.YtpeikjnkbjabpaaDoorSVWNEv
import Derived.Test.YtpeikjnkbjabpaaDoorSVWMore
namespace Go.Proofs.YtpeikjnkbjabpaaDoor.V
open Go.RowKit Go.Proofs.YtpeikjnkbjabpaaDoorW.PrintWords Go.Proofs.YtpeikjnkbjabpaaDoorW.PrintLast Go.Proofs.YtpeikjnkbjabpaaDoorW.PrintMore
attribute [local go_sem] max2_int min2_int max_two min_two max_three min_three max_four min_four   -- for this text's walks alone
set_option linter.unusedVariables false
set_option linter.unusedSimpArgs false
instance addrZero_ : OfNat Addr 0 := ⟨⟨0, 0, none⟩⟩
def errW (q : Addr) : Option Int → Value
  | none => .nilIface
  | some _ => .iface 84 (.pointer (some q))
theorem errW_none (q : Addr) : errW q none = .nilIface := rfl
theorem errW_some (q : Addr) (c : Int) : errW q (some c) = .iface 84 (.pointer (some q)) := rfl
theorem info5 : (Tryd.prog.info? 5).map (fun i => (i.zero, i.size, i.bytes)) = some (some (.int .u8 0), 1, 1) := by kernel_rfl
theorem info22 : (Tryd.prog.info? 22).map (fun i => (i.zero, i.size, i.bytes)) = some (some (.slice none 0 0), 1, 24) := by kernel_rfl
def rd_L1 (xs : List (List Int)) (i : Int) : (List Int) := xs.getD i.toNat ([] : List Int)
theorem at_L1 {w : World} {A : Option Addr} {n : Nat} {xs : List (List Int)} (h : Kd.C (Kd.slice 5 (Kd.int .u8)) w A n xs) (i : Int) (h0 : 0 ≤ i) (h1 : i < n) : ∃ ad A0 c0, A = some ad ∧ w.cell? (ad.add i.toNat) = some (.slice A0 (rd_L1 xs i).length c0) ∧ (rd_L1 xs i).length ≤ c0 ∧ (Kd.int .u8).C w A0 (rd_L1 xs i).length (rd_L1 xs i) := by
  obtain ⟨ad, c, e, _, hK, hc0⟩ := Kd.C_get h ([] : List Int) i h0 h1
  have hc : ∀ j u, c[j]? = some u → w.cell? (ad.add (i.toNat * 1 + j)) = some u := hc0
  obtain ⟨A0, c0, rfl, l0, g0⟩ := hK
  exact ⟨ad, A0, c0, e, by have hq := hc 0 _ rfl; rwa [Nat.mul_one, Nat.add_zero] at hq, l0, g0⟩
structure GlobE (w : World) : Prop where mk :: (out : ∀ g, g ∈ ([3, 4, 5, 6, 7, 8] : List Nat) → ∃ q : Addr, w.cell? ⟨g, 0, none⟩ = some (errW q (some 0)))
theorem GlobE.below {w w' : World} (h : GlobE w) (hb : Below w.heap.size w w') : GlobE w' := ⟨fun g hg => by obtain ⟨q, hq⟩ := h.out g hg; exact ⟨q, pw_cell_below hb hq⟩⟩
theorem GlobE.drewN {w : World} (h : GlobE w) (n : Nat) : GlobE (w.drewN n) := ⟨h.out⟩
theorem GlobE.drew {w : World} (h : GlobE w) : GlobE w.drew := ⟨h.out⟩
def xt (a : Nat) : Nat := if a < 128 then 2 * a else (2 * a) ^^^ 285
def gpow : Nat → Nat
  | 0 => 1
  | n + 1 => xt (gpow n)
def glog (a : Nat) : Nat := ((List.range 255).find? fun n => gpow n == a).getD 0
def gmul (a b : Nat) : Nat := if a = 0 ∨ b = 0 then 0 else gpow (if 255 ≤ glog a + glog b then glog a + glog b - 255 else glog a + glog b)
structure GlobF (w : World) : Prop where mk :: (log : ∀ j, j < 256 → w.cell? ⟨0, j, none⟩ = some (.int .u8 ((glog j : Nat) : Int))) (exp : ∀ j, j < 256 → w.cell? ⟨1, j, none⟩ = some (.int .u8 ((gpow j : Nat) : Int)))
theorem GlobF.below {w w' : World} (h : GlobF w) (hb : Below w.heap.size w w') : GlobF w' := ⟨fun j hj => pw_cell_below hb (h.log j hj), fun j hj => pw_cell_below hb (h.exp j hj)⟩
theorem GlobF.drewN {w : World} (h : GlobF w) (n : Nat) : GlobF (w.drewN n) := ⟨h.log, h.exp⟩
theorem GlobF.drew {w : World} (h : GlobF w) : GlobF w.drew := ⟨h.log, h.exp⟩
theorem gpow_lt_fin : ∀ n : Fin 256, gpow n.val < 256 := by decide +kernel
theorem gpow_lt (n : Nat) (h : n < 256) : gpow n < 256 := gpow_lt_fin ⟨n, h⟩
theorem glog_lt (a : Nat) : glog a < 255 := by
  unfold glog
  cases h : (List.range 255).find? fun n => gpow n == a with
  | none => decide
  | some n =>
    have := List.mem_of_find?_eq_some h
    simpa using this
end Go.Proofs.YtpeikjnkbjabpaaDoor.V
