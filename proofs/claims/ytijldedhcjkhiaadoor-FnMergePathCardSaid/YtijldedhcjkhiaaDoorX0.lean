-- laid by xprint.py (a program of this session over the kit's print); Lean checks it
import Derived.Test.YtijldedhcjkhiaaDoorProg
import Derived.Below
import Derived.Deep.Draws
import Derived.Deep.AppendLies
import Derived.Maps.AppendAt
import Derived.OwnWalk
import Derived.Laws.BytesArg
import Derived.Laws.MakeOwn
import Derived.Laws.OwnMore
import Derived.Deep.OwnRows
import Derived.Tactics
import Derived.Lib.ConvBytes
import Derived.Laws.Slices
import Derived.WalkKit
import Derived.KernelRfl
import Derived.RowKit3
import Derived.Deep.LoopGhost
import Derived.Deep.QuietTactic
import Derived.BigQuiet
import Derived.WideLaws
import Derived.Deep.DeepCutAuto
import Derived.Deep.CutBlock
import Derived.Deep.RegionHeld3
import Derived.Laws.Rows
import Derived.Lib.AppendStr
import Derived.ArgAppend
import Derived.Laws.IdiomCopy
import Derived.OrdersHeld
import Derived.Laws.BitsLemmas
import Derived.RowKit
import Derived.Lib.TrailingZeros
import Derived.Laws.Bits64b
import Derived.Lib.BitFns
import Derived.Lib.Strings
import Derived.Lib.Slices
import Derived.Lib.Small
import Derived.Lib.Walk
import Derived.Test.YtijldedhcjkhiaaDoorWWords
import Derived.Test.YtijldedhcjkhiaaDoorWLast
import Derived.Test.YtijldedhcjkhiaaDoorWTab
import Derived.Test.YtijldedhcjkhiaaDoorWFour
import Derived.Test.YtijldedhcjkhiaaDoorWQPut
import Derived.Test.YtijldedhcjkhiaaDoorWApart
import Derived.Test.YtijldedhcjkhiaaDoorWArr
import Derived.Test.YtijldedhcjkhiaaDoorWZeros
import Derived.Test.YtijldedhcjkhiaaDoorWFoot
import Derived.Test.YtijldedhcjkhiaaDoorWKept
import Derived.Test.YtijldedhcjkhiaaDoorWShare
import Derived.Test.YtijldedhcjkhiaaDoorWN
import Derived.Test.YtijldedhcjkhiaaDoorWFootNe
import Derived.Test.YtijldedhcjkhiaaDoorWAt
import Derived.Test.YtijldedhcjkhiaaDoorWEqStruct
import Derived.Test.YtijldedhcjkhiaaDoorWRepsOne
import Derived.Test.YtijldedhcjkhiaaDoorWInv
import Derived.Test.YtijldedhcjkhiaaDoorWInvWords
import Derived.Test.YtijldedhcjkhiaaDoorWGuard
import Derived.Test.YtijldedhcjkhiaaDoorWNEv
import Derived.Test.YtijldedhcjkhiaaDoorWMore
namespace Go.Proofs.YtijldedhcjkhiaaDoor.X
open Go.RowKit Go.Proofs.YtijldedhcjkhiaaDoorW.PrintWords Go.Proofs.YtijldedhcjkhiaaDoorW.PrintLast Go.Proofs.YtijldedhcjkhiaaDoorW.PrintMore
attribute [local go_sem] max2_int min2_int max_two min_two max_three min_three max_four min_four   -- for this text's walks alone
set_option linter.unusedVariables false
set_option linter.unusedSimpArgs false



def errW : Option Int → Value
  | none => .nilIface
  | some c => .iface 0 (.int .i64 c)
theorem errW_none : errW none = .nilIface := rfl
theorem errW_some (c : Int) : errW (some c) = .iface 0 (.int .i64 c) := rfl

theorem info5 : (Tryd.prog.info? 5).map (fun i => (i.zero, i.size, i.bytes)) = some (some (.int .u8 0), 1, 1) := by kernel_rfl
theorem info23 : (Tryd.prog.info? 23).map (fun i => (i.zero, i.size, i.bytes)) = some (some (.int .u64 0), 1, 8) := by kernel_rfl
theorem info34 : (Tryd.prog.info? 34).map (fun i => (i.zero, i.size, i.bytes)) = some (some (.agg #[(.int .u64 0), (.int .u64 0)]), 2, 16) := by kernel_rfl
theorem info42 : (Tryd.prog.info? 42).map (fun i => (i.zero, i.size, i.bytes)) = some (some (.slice none 0 0), 1, 24) := by kernel_rfl
theorem info70 : (Tryd.prog.info? 70).map (fun i => (i.zero, i.size, i.bytes)) = some (some (.agg #[(.int .u64 0), (.int .u64 0)]), 2, 16) := by kernel_rfl
theorem info88 : (Tryd.prog.info? 88).map (fun i => (i.zero, i.size, i.bytes)) = some (some (.agg #[(.int .u64 0), (.int .u64 0), (.slice none 0 0)]), 3, 40) := by kernel_rfl
theorem info107 : (Tryd.prog.info? 107).map (fun i => (i.zero, i.size, i.bytes)) = some (some (.agg #[(.int .u64 0), (.int .u64 0)]), 2, 16) := by kernel_rfl
-- the values' own types
/-! #### struct type 70 -/
structure S70 where
  f0 : Int
  f1 : Int
def z70 : S70 := ⟨(0 : Int), (0 : Int)⟩
def k70 : Kd S70 := Kd.iso (Kd.pair (Kd.int .u64) (Kd.int .u64)) (fun x : S70 => (x.f0, x.f1))
theorem k70_heap : Kd.Heap k70 := Kd.heap_iso _ (Kd.heap_pair (Kd.heap_int .u64) (Kd.heap_int .u64))
theorem k70_open {w : World} {x : S70} {cs : List Value} (h : k70.K w x cs) : cs = [.int .u64 x.f0, .int .u64 x.f1] := by
  obtain ⟨_, _, rfl, rfl, rfl⟩ := h
  exact rfl
theorem k70_openM {w : World} {base : Nat} {ok : Nat → Prop} {x : S70} {cs : List Value} (h : k70.M w base ok x cs) : cs = [.int .u64 x.f0, .int .u64 x.f1] := by
  obtain ⟨_, _, rfl, rfl, rfl⟩ := h
  exact rfl
theorem k70_mk (w : World) (x : S70)  : k70.K w x [.int .u64 x.f0, .int .u64 x.f1] := ⟨[.int .u64 x.f0], [.int .u64 x.f1], rfl, rfl, rfl⟩
theorem k70_mkM (w : World) (base : Nat) (ok : Nat → Prop) (x : S70)  : k70.M w base ok x [.int .u64 x.f0, .int .u64 x.f1] := ⟨[.int .u64 x.f0], [.int .u64 x.f1], rfl, rfl, rfl⟩
theorem k70_mkF (W : World) (ok : Nat → Prop) (x : S70) : Kd.FK k70 W ok x [.int .u64 x.f0, .int .u64 x.f1] := fun W2 _ => k70_mk W2 x
def rd_T70 (xs : List S70) (i : Int) : S70 := xs.getD i.toNat z70
theorem at_T70 {w : World} {A : Option Addr} {n : Nat} {xs : List S70} (h : Kd.C k70 w A n xs) (i : Int) (h0 : 0 ≤ i) (h1 : i < n) : ∃ ad , A = some ad ∧ w.cell? (ad.add (i.toNat * 2)) = some (.int .u64 (rd_T70 xs i).f0) ∧ w.cell? ⟨(ad.add (i.toNat * 2)).block, (ad.add (i.toNat * 2)).off + 1, none⟩ = some (.int .u64 (rd_T70 xs i).f1) := by
  obtain ⟨ad, c, e, _, hK, hc0⟩ := Kd.C_get h z70 i h0 h1
  have hc : ∀ j u, c[j]? = some u → w.cell? (ad.add (i.toNat * 2 + j)) = some u := hc0
  obtain rfl := k70_open hK
  exact ⟨ad, e, hc 0 _ rfl, by rw [← add_field _ _ 1 (by omega)]; exact hc 1 _ rfl⟩

/-! #### struct type 107 -/
structure S107 where
  f0 : Int
  f1 : Int
def z107 : S107 := ⟨(0 : Int), (0 : Int)⟩
def k107 : Kd S107 := Kd.iso (Kd.pair (Kd.int .u64) (Kd.int .u64)) (fun x : S107 => (x.f0, x.f1))
theorem k107_heap : Kd.Heap k107 := Kd.heap_iso _ (Kd.heap_pair (Kd.heap_int .u64) (Kd.heap_int .u64))
theorem k107_open {w : World} {x : S107} {cs : List Value} (h : k107.K w x cs) : cs = [.int .u64 x.f0, .int .u64 x.f1] := by
  obtain ⟨_, _, rfl, rfl, rfl⟩ := h
  exact rfl
theorem k107_openM {w : World} {base : Nat} {ok : Nat → Prop} {x : S107} {cs : List Value} (h : k107.M w base ok x cs) : cs = [.int .u64 x.f0, .int .u64 x.f1] := by
  obtain ⟨_, _, rfl, rfl, rfl⟩ := h
  exact rfl
theorem k107_mk (w : World) (x : S107)  : k107.K w x [.int .u64 x.f0, .int .u64 x.f1] := ⟨[.int .u64 x.f0], [.int .u64 x.f1], rfl, rfl, rfl⟩
theorem k107_mkM (w : World) (base : Nat) (ok : Nat → Prop) (x : S107)  : k107.M w base ok x [.int .u64 x.f0, .int .u64 x.f1] := ⟨[.int .u64 x.f0], [.int .u64 x.f1], rfl, rfl, rfl⟩
theorem k107_mkF (W : World) (ok : Nat → Prop) (x : S107) : Kd.FK k107 W ok x [.int .u64 x.f0, .int .u64 x.f1] := fun W2 _ => k107_mk W2 x
def rd_T107 (xs : List S107) (i : Int) : S107 := xs.getD i.toNat z107
theorem at_T107 {w : World} {A : Option Addr} {n : Nat} {xs : List S107} (h : Kd.C k107 w A n xs) (i : Int) (h0 : 0 ≤ i) (h1 : i < n) : ∃ ad , A = some ad ∧ w.cell? (ad.add (i.toNat * 2)) = some (.int .u64 (rd_T107 xs i).f0) ∧ w.cell? ⟨(ad.add (i.toNat * 2)).block, (ad.add (i.toNat * 2)).off + 1, none⟩ = some (.int .u64 (rd_T107 xs i).f1) := by
  obtain ⟨ad, c, e, _, hK, hc0⟩ := Kd.C_get h z107 i h0 h1
  have hc : ∀ j u, c[j]? = some u → w.cell? (ad.add (i.toNat * 2 + j)) = some u := hc0
  obtain rfl := k107_open hK
  exact ⟨ad, e, hc 0 _ rfl, by rw [← add_field _ _ 1 (by omega)]; exact hc 1 _ rfl⟩

def rd_L4 (xs : List (List Int)) (i : Int) : (List Int) := xs.getD i.toNat ([] : List Int)
theorem at_L4 {w : World} {A : Option Addr} {n : Nat} {xs : List (List Int)} (h : Kd.C (Kd.slice 5 (Kd.int .u8)) w A n xs) (i : Int) (h0 : 0 ≤ i) (h1 : i < n) : ∃ ad A0 c0, A = some ad ∧ w.cell? (ad.add i.toNat) = some (.slice A0 (rd_L4 xs i).length c0) ∧ (rd_L4 xs i).length ≤ c0 ∧ (Kd.int .u8).C w A0 (rd_L4 xs i).length (rd_L4 xs i) := by
  obtain ⟨ad, c, e, _, hK, hc0⟩ := Kd.C_get h ([] : List Int) i h0 h1
  have hc : ∀ j u, c[j]? = some u → w.cell? (ad.add (i.toNat * 1 + j)) = some u := hc0
  obtain ⟨A0, c0, rfl, l0, g0⟩ := hK
  exact ⟨ad, A0, c0, e, by have hq := hc 0 _ rfl; rwa [Nat.mul_one, Nat.add_zero] at hq, l0, g0⟩

/-! #### struct type 88 -/
structure S88 where
  f0 : S70
  f1 : (List Int)
def z88 : S88 := ⟨z70, ([] : List Int)⟩
def k88 : Kd S88 := Kd.iso (Kd.pair k70 (Kd.slice 5 (Kd.int .u8))) (fun x : S88 => (x.f0, x.f1))
theorem k88_heap : Kd.Heap k88 := Kd.heap_iso _ (Kd.heap_pair k70_heap (Kd.heap_slice 5 (Kd.heap_int .u8)))
theorem k88_open {w : World} {x : S88} {cs : List Value} (h : k88.K w x cs) : ∃ A2 c2, cs = [.int .u64 x.f0.f0, .int .u64 x.f0.f1, .slice A2 x.f1.length c2] ∧ x.f1.length ≤ c2 ∧ (Kd.int .u8).C w A2 x.f1.length x.f1 := by
  obtain ⟨_, _, rfl, s0, ⟨A2, c2, rfl, l2, g2⟩⟩ := h
  obtain rfl := k70_open s0
  exact ⟨A2, c2, rfl, l2, g2⟩
theorem k88_openM {w : World} {base : Nat} {ok : Nat → Prop} {x : S88} {cs : List Value} (h : k88.M w base ok x cs) : ∃ v2, cs = [.int .u64 x.f0.f0, .int .u64 x.f0.f1, v2] ∧ (Kd.int .u8).R 5 w base ok v2 x.f1 := by
  obtain ⟨_, _, rfl, s0, ⟨v2, rfl, g2⟩⟩ := h
  obtain rfl := k70_openM s0
  exact ⟨v2, rfl, g2⟩
theorem k88_mk (w : World) (x : S88) {A2 : Option Addr} {c2 : Nat} (l2 : x.f1.length ≤ c2) (g2 : (Kd.int .u8).C w A2 x.f1.length x.f1) : k88.K w x [.int .u64 x.f0.f0, .int .u64 x.f0.f1, .slice A2 x.f1.length c2] := ⟨[.int .u64 x.f0.f0, .int .u64 x.f0.f1], [.slice A2 x.f1.length c2], rfl, (k70_mk w x.f0 ), ⟨A2, c2, rfl, l2, g2⟩⟩
theorem k88_mkM (w : World) (base : Nat) (ok : Nat → Prop) (x : S88) {v2 : Value} (g2 : (Kd.int .u8).R 5 w base ok v2 x.f1) : k88.M w base ok x [.int .u64 x.f0.f0, .int .u64 x.f0.f1, v2] := ⟨[.int .u64 x.f0.f0, .int .u64 x.f0.f1], [v2], rfl, (k70_mkM w base ok x.f0 ), ⟨v2, rfl, g2⟩⟩
theorem k88_openF {W : World} {ok : Nat → Prop} {x : S88} {cs : List Value} (h : Kd.FK k88 W ok x cs) : ∃ A2 c2, cs = [.int .u64 x.f0.f0, .int .u64 x.f0.f1, .slice A2 x.f1.length c2] ∧ x.f1.length ≤ c2 ∧ Kd.F (Kd.int .u8) W ok A2 x.f1.length x.f1 := by
  obtain ⟨A2, c2, rfl, l2, _⟩ := k88_open (Kd.FK_now h)
  exact ⟨A2, c2, rfl, l2, (fun W' hW => by obtain ⟨A2_, c2_, he, l2_, g2_⟩ := k88_open (h W' hW); injection (Option.some.inj (show some (Value.slice A2 x.f1.length c2) = some (Value.slice A2_ x.f1.length c2_) from congrArg (fun l => l[2]?) he)) with ha_ _ _; rw [ha_]; exact g2_)⟩
theorem k88_mkF (W : World) (ok : Nat → Prop) (x : S88) {A2 : Option Addr} {c2 : Nat} (l2 : x.f1.length ≤ c2) (g2 : Kd.F (Kd.int .u8) W ok A2 x.f1.length x.f1) : Kd.FK k88 W ok x [.int .u64 x.f0.f0, .int .u64 x.f0.f1, .slice A2 x.f1.length c2] := fun W2 hW => k88_mk W2 x l2 (g2 W2 hW)
def rd_T88 (xs : List S88) (i : Int) : S88 := xs.getD i.toNat z88
theorem at_T88 {w : World} {A : Option Addr} {n : Nat} {xs : List S88} (h : Kd.C k88 w A n xs) (i : Int) (h0 : 0 ≤ i) (h1 : i < n) : ∃ ad A2 c2, A = some ad ∧ w.cell? (ad.add (i.toNat * 3)) = some (.int .u64 (rd_T88 xs i).f0.f0) ∧ w.cell? ⟨(ad.add (i.toNat * 3)).block, (ad.add (i.toNat * 3)).off + 1, none⟩ = some (.int .u64 (rd_T88 xs i).f0.f1) ∧ w.cell? ⟨(ad.add (i.toNat * 3)).block, (ad.add (i.toNat * 3)).off + 2, none⟩ = some (.slice A2 (rd_T88 xs i).f1.length c2) ∧ (rd_T88 xs i).f1.length ≤ c2 ∧ (Kd.int .u8).C w A2 (rd_T88 xs i).f1.length (rd_T88 xs i).f1 := by
  obtain ⟨ad, c, e, _, hK, hc0⟩ := Kd.C_get h z88 i h0 h1
  have hc : ∀ j u, c[j]? = some u → w.cell? (ad.add (i.toNat * 3 + j)) = some u := hc0
  obtain ⟨A2, c2, rfl, l2, g2⟩ := k88_open hK
  exact ⟨ad, A2, c2, e, hc 0 _ rfl, by rw [← add_field _ _ 1 (by omega)]; exact hc 1 _ rfl, by rw [← add_field _ _ 2 (by omega)]; exact hc 2 _ rfl, l2, g2⟩

/-! #### struct type 34 -/
structure S34 where
  f0 : Int
  f1 : Int
def z34 : S34 := ⟨(0 : Int), (0 : Int)⟩
def k34 : Kd S34 := Kd.iso (Kd.pair (Kd.int .u64) (Kd.int .u64)) (fun x : S34 => (x.f0, x.f1))
theorem k34_heap : Kd.Heap k34 := Kd.heap_iso _ (Kd.heap_pair (Kd.heap_int .u64) (Kd.heap_int .u64))
theorem k34_open {w : World} {x : S34} {cs : List Value} (h : k34.K w x cs) : cs = [.int .u64 x.f0, .int .u64 x.f1] := by
  obtain ⟨_, _, rfl, rfl, rfl⟩ := h
  exact rfl
theorem k34_openM {w : World} {base : Nat} {ok : Nat → Prop} {x : S34} {cs : List Value} (h : k34.M w base ok x cs) : cs = [.int .u64 x.f0, .int .u64 x.f1] := by
  obtain ⟨_, _, rfl, rfl, rfl⟩ := h
  exact rfl
theorem k34_mk (w : World) (x : S34)  : k34.K w x [.int .u64 x.f0, .int .u64 x.f1] := ⟨[.int .u64 x.f0], [.int .u64 x.f1], rfl, rfl, rfl⟩
theorem k34_mkM (w : World) (base : Nat) (ok : Nat → Prop) (x : S34)  : k34.M w base ok x [.int .u64 x.f0, .int .u64 x.f1] := ⟨[.int .u64 x.f0], [.int .u64 x.f1], rfl, rfl, rfl⟩
theorem k34_mkF (W : World) (ok : Nat → Prop) (x : S34) : Kd.FK k34 W ok x [.int .u64 x.f0, .int .u64 x.f1] := fun W2 _ => k34_mk W2 x
def rd_T34 (xs : List S34) (i : Int) : S34 := xs.getD i.toNat z34
theorem at_T34 {w : World} {A : Option Addr} {n : Nat} {xs : List S34} (h : Kd.C k34 w A n xs) (i : Int) (h0 : 0 ≤ i) (h1 : i < n) : ∃ ad , A = some ad ∧ w.cell? (ad.add (i.toNat * 2)) = some (.int .u64 (rd_T34 xs i).f0) ∧ w.cell? ⟨(ad.add (i.toNat * 2)).block, (ad.add (i.toNat * 2)).off + 1, none⟩ = some (.int .u64 (rd_T34 xs i).f1) := by
  obtain ⟨ad, c, e, _, hK, hc0⟩ := Kd.C_get h z34 i h0 h1
  have hc : ∀ j u, c[j]? = some u → w.cell? (ad.add (i.toNat * 2 + j)) = some u := hc0
  obtain rfl := k34_open hK
  exact ⟨ad, e, hc 0 _ rfl, by rw [← add_field _ _ 1 (by omega)]; exact hc 1 _ rfl⟩

def rd_L7 (xs : List (List (List Int))) (i : Int) : (List (List Int)) := xs.getD i.toNat ([] : List (List Int))
theorem at_L7 {w : World} {A : Option Addr} {n : Nat} {xs : List (List (List Int))} (h : Kd.C (Kd.slice 42 (Kd.slice 5 (Kd.int .u8))) w A n xs) (i : Int) (h0 : 0 ≤ i) (h1 : i < n) : ∃ ad A0 c0, A = some ad ∧ w.cell? (ad.add i.toNat) = some (.slice A0 (rd_L7 xs i).length c0) ∧ (rd_L7 xs i).length ≤ c0 ∧ (Kd.slice 5 (Kd.int .u8)).C w A0 (rd_L7 xs i).length (rd_L7 xs i) := by
  obtain ⟨ad, c, e, _, hK, hc0⟩ := Kd.C_get h ([] : List (List Int)) i h0 h1
  have hc : ∀ j u, c[j]? = some u → w.cell? (ad.add (i.toNat * 1 + j)) = some u := hc0
  obtain ⟨A0, c0, rfl, l0, g0⟩ := hK
  exact ⟨ad, A0, c0, e, by have hq := hc 0 _ rfl; rwa [Nat.mul_one, Nat.add_zero] at hq, l0, g0⟩

/-! #### struct type 40 -/
structure S40 where
  f0 : Int
  f1 : Int
  f2 : (List (List Int))
def z40 : S40 := ⟨(0 : Int), (0 : Int), ([] : List (List Int))⟩
def k40 : Kd S40 := Kd.iso (Kd.pair (Kd.int .u64) (Kd.pair (Kd.int .u64) (Kd.slice 42 (Kd.slice 5 (Kd.int .u8))))) (fun x : S40 => (x.f0, x.f1, x.f2))
theorem k40_heap : Kd.Heap k40 := Kd.heap_iso _ (Kd.heap_pair (Kd.heap_int .u64) (Kd.heap_pair (Kd.heap_int .u64) (Kd.heap_slice 42 (Kd.heap_slice 5 (Kd.heap_int .u8)))))
theorem k40_open {w : World} {x : S40} {cs : List Value} (h : k40.K w x cs) : ∃ A2 c2, cs = [.int .u64 x.f0, .int .u64 x.f1, .slice A2 x.f2.length c2] ∧ x.f2.length ≤ c2 ∧ (Kd.slice 5 (Kd.int .u8)).C w A2 x.f2.length x.f2 := by
  obtain ⟨_, _, rfl, rfl, ⟨_, _, rfl, rfl, ⟨A2, c2, rfl, l2, g2⟩⟩⟩ := h
  exact ⟨A2, c2, rfl, l2, g2⟩
theorem k40_openM {w : World} {base : Nat} {ok : Nat → Prop} {x : S40} {cs : List Value} (h : k40.M w base ok x cs) : ∃ v2, cs = [.int .u64 x.f0, .int .u64 x.f1, v2] ∧ (Kd.slice 5 (Kd.int .u8)).R 42 w base ok v2 x.f2 := by
  obtain ⟨_, _, rfl, rfl, ⟨_, _, rfl, rfl, ⟨v2, rfl, g2⟩⟩⟩ := h
  exact ⟨v2, rfl, g2⟩
theorem k40_mk (w : World) (x : S40) {A2 : Option Addr} {c2 : Nat} (l2 : x.f2.length ≤ c2) (g2 : (Kd.slice 5 (Kd.int .u8)).C w A2 x.f2.length x.f2) : k40.K w x [.int .u64 x.f0, .int .u64 x.f1, .slice A2 x.f2.length c2] := ⟨[.int .u64 x.f0], [.int .u64 x.f1, .slice A2 x.f2.length c2], rfl, rfl, ⟨[.int .u64 x.f1], [.slice A2 x.f2.length c2], rfl, rfl, ⟨A2, c2, rfl, l2, g2⟩⟩⟩
theorem k40_mkM (w : World) (base : Nat) (ok : Nat → Prop) (x : S40) {v2 : Value} (g2 : (Kd.slice 5 (Kd.int .u8)).R 42 w base ok v2 x.f2) : k40.M w base ok x [.int .u64 x.f0, .int .u64 x.f1, v2] := ⟨[.int .u64 x.f0], [.int .u64 x.f1, v2], rfl, rfl, ⟨[.int .u64 x.f1], [v2], rfl, rfl, ⟨v2, rfl, g2⟩⟩⟩
theorem k40_openF {W : World} {ok : Nat → Prop} {x : S40} {cs : List Value} (h : Kd.FK k40 W ok x cs) : ∃ A2 c2, cs = [.int .u64 x.f0, .int .u64 x.f1, .slice A2 x.f2.length c2] ∧ x.f2.length ≤ c2 ∧ Kd.F (Kd.slice 5 (Kd.int .u8)) W ok A2 x.f2.length x.f2 := by
  obtain ⟨A2, c2, rfl, l2, _⟩ := k40_open (Kd.FK_now h)
  exact ⟨A2, c2, rfl, l2, (fun W' hW => by obtain ⟨A2_, c2_, he, l2_, g2_⟩ := k40_open (h W' hW); injection (Option.some.inj (show some (Value.slice A2 x.f2.length c2) = some (Value.slice A2_ x.f2.length c2_) from congrArg (fun l => l[2]?) he)) with ha_ _ _; rw [ha_]; exact g2_)⟩
theorem k40_mkF (W : World) (ok : Nat → Prop) (x : S40) {A2 : Option Addr} {c2 : Nat} (l2 : x.f2.length ≤ c2) (g2 : Kd.F (Kd.slice 5 (Kd.int .u8)) W ok A2 x.f2.length x.f2) : Kd.FK k40 W ok x [.int .u64 x.f0, .int .u64 x.f1, .slice A2 x.f2.length c2] := fun W2 hW => k40_mk W2 x l2 (g2 W2 hW)
def rd_T40 (xs : List S40) (i : Int) : S40 := xs.getD i.toNat z40
theorem at_T40 {w : World} {A : Option Addr} {n : Nat} {xs : List S40} (h : Kd.C k40 w A n xs) (i : Int) (h0 : 0 ≤ i) (h1 : i < n) : ∃ ad A2 c2, A = some ad ∧ w.cell? (ad.add (i.toNat * 3)) = some (.int .u64 (rd_T40 xs i).f0) ∧ w.cell? ⟨(ad.add (i.toNat * 3)).block, (ad.add (i.toNat * 3)).off + 1, none⟩ = some (.int .u64 (rd_T40 xs i).f1) ∧ w.cell? ⟨(ad.add (i.toNat * 3)).block, (ad.add (i.toNat * 3)).off + 2, none⟩ = some (.slice A2 (rd_T40 xs i).f2.length c2) ∧ (rd_T40 xs i).f2.length ≤ c2 ∧ (Kd.slice 5 (Kd.int .u8)).C w A2 (rd_T40 xs i).f2.length (rd_T40 xs i).f2 := by
  obtain ⟨ad, c, e, _, hK, hc0⟩ := Kd.C_get h z40 i h0 h1
  have hc : ∀ j u, c[j]? = some u → w.cell? (ad.add (i.toNat * 3 + j)) = some u := hc0
  obtain ⟨A2, c2, rfl, l2, g2⟩ := k40_open hK
  exact ⟨ad, A2, c2, e, hc 0 _ rfl, by rw [← add_field _ _ 1 (by omega)]; exact hc 1 _ rfl, by rw [← add_field _ _ 2 (by omega)]; exact hc 2 _ rfl, l2, g2⟩

/-- The table by which math/bits counts trailing zeros lies in the world. -/
structure GlobT (w : World) : Prop where mk :: (out : ∀ j, j < 64 → w.cell? ⟨0, j, none⟩ = some (.int .u8 ((Lib.deBruijn64tab.getD j 0 : Nat) : Int)))
theorem GlobT.below {w w' : World} (h : GlobT w) (hb : Below w.heap.size w w') : GlobT w' := ⟨fun j hj => pw_cell_below hb (h.out j hj)⟩
theorem GlobT.drewN {w : World} (h : GlobT w) (n : Nat) : GlobT (w.drewN n) := ⟨h.out⟩
theorem GlobT.drew {w : World} (h : GlobT w) : GlobT w.drew := ⟨h.out⟩

end Go.Proofs.YtijldedhcjkhiaaDoor.X
