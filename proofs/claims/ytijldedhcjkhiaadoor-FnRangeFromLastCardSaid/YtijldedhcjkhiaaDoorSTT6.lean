import Derived.Test.YtijldedhcjkhiaaDoorSTT0
import Derived.Test.YtijldedhcjkhiaaDoorSTT3
import Derived.Test.YtijldedhcjkhiaaDoorSTT4
import Derived.Test.YtijldedhcjkhiaaDoorSTT5
namespace Go.Proofs.YtijldedhcjkhiaaDoor.T
open Go.RowKit Go.Proofs.YtijldedhcjkhiaaDoorW.PrintWords Go.Proofs.YtijldedhcjkhiaaDoorW.PrintLast Go.Proofs.YtijldedhcjkhiaaDoorW.PrintMore
attribute [local go_sem] max2_int min2_int max_two min_two max_three min_three max_four min_four   -- for this text's walks alone
set_option linter.unusedVariables false
set_option linter.unusedSimpArgs false
theorem clos_run_ {P : Program} {oi : Oper} {a : Act} {w : World} {f : FuncId} {fn : Func} {t : Operand} {as_ : Array Operand} {ts : Array TypeId} {v : Value} (hf : P.funcs[f]? = some fn) (hname : (fn.name == "runtime.NumGoroutine") = false) (hb : fn.body.isSome = true) (rest_ all : Array Value)
    (hop : oi.op = .call { callee := .value t, args := as_, argTypes := ts }) (hrecv : a.eval t = .func (.func f) #[] #[v]) (hargs : as_.map a.eval = rest_) (hall : rest_ ++ #[v] = all) :
    (execOp a.eval oi).run P w = .ok (.enter f all) w := by
  have he := enters_ hf hname hb all w
  subst hall
  subst hargs
  have hX : ∀ X : Array Value, (callFunc f (X ++ #[v])).run P w = .ok (.enter f (X ++ #[v])) w → (invoke (.fn (.func f) #[v]) X).run P w = .ok (.enter f (X ++ #[v])) w := fun X hx => hx
  have hD : Deferred.ofValue (.func (.func f) #[] #[v]) (as_.map a.eval) = pure { target := .fn (.func f) #[v], args := as_.map a.eval } := by
    simp [Deferred.ofValue]
  unfold execOp
  simp only [hop, resolve, hrecv, hD, Sem.run_bind, Sem.run_pure, Result.andThen]
  exact hX _ he
theorem closL_ {P : Program} {ops : Array Oper} {Q : Exit → Act → World → Prop} {rest : List Oper} {oi : Oper} {a : Act} {w : World} (N : Option Tmp) (hd : oi.dst = N) (hg : oi.guard = none) {f : FuncId} {fn : Func} {t : Operand} {as_ : Array Operand} {ts : Array TypeId} {v : Value} (hf : P.funcs[f]? = some fn) (hname : (fn.name == "runtime.NumGoroutine") = false) (hb : fn.body.isSome = true) (rest_ all : Array Value)
    (hop : oi.op = .call { callee := .value t, args := as_, argTypes := ts }) (hrecv : a.eval t = .func (.func f) #[] #[v]) (hargs : as_.map a.eval = rest_) (hall : rest_ ++ #[v] = all)
    (h : Calls P f all w fun e w' => ∃ v, e = .returned v ∧ wpList P ops Q rest (a.put N v) w') : wpList P ops Q (oi :: rest) a w := by
  refine wpList_plain hg fun K hK => ?_
  have hrun := clos_run_ (w := w) hf hname hb rest_ all hop hrecv hargs hall
  unfold Oper.wp
  rw [hrun, Oper.upon_enter]
  refine h.mono fun e w'' hh => ?_
  obtain ⟨v, rfl, hk⟩ := hh
  subst hd
  exact hK _ _ hk
structure Seen (w : World) (s : Nat) (P : Nat → Prop) (v : Value) (L : List S88) : Prop where mk ::
  cell : w.heap[s]? = some (.cells #[v] 43 (0, 0))
  row : Kd.S k88 88 w (s + 1) (fun k => s < k ∧ P k) v L
theorem Seen.below {w w' : World} {s : Nat} {P : Nat → Prop} {v : Value} {L : List S88} (h : Seen w s P v L) (hb : Below w.heap.size w w') : Seen w' s P v L := ⟨blk_below h.cell hb, Kd.S_below h.row hb⟩
theorem Seen.lt {w : World} {s : Nat} {P : Nat → Prop} {v : Value} {L : List S88} (h : Seen w s P v L) : s < w.heap.size := blk_lt h.cell
def shows (s : Nat) (v : Value) : Nat → Prop := fun k => k = s ∨ some k = v.ownBlock
def apl (k : Nat) (h0 h1 h2 h3 h4 h5 : Int) (T H : List (List Int)) : Nat → Nat → Nat → Nat → Nat → List Int → List S88 → Option (List Int × Nat × Nat × List S88)
  | 0, _, i1, i2, _, seed, L => some (seed, i1, i2, L)
  | d + 1, h, i1, i2, x, seed, L => if x % 2 = 0 then (if i2 < H.length then (impl_toy_HashChildren.f k h0 h1 h2 h3 h4 h5 seed (H.getD i2 [])).bind fun t => if t.length < 140737488355328 then apl k h0 h1 h2 h3 h4 h5 T H d (h + 1) i1 (i2 + 1) (x / 2) t (L ++ [⟨⟨((h + 1 : Nat) : Int), ((x / 2 : Nat) : Int)⟩, t⟩]) else none else none)
    else (if 0 < i1 ∧ i1 ≤ T.length then (impl_toy_HashChildren.f k h0 h1 h2 h3 h4 h5 (T.getD (i1 - 1) []) seed).bind fun t => if t.length < 140737488355328 then apl k h0 h1 h2 h3 h4 h5 T H d (h + 1) (i1 - 1) i2 (x / 2) t (L ++ [⟨⟨((h + 1 : Nat) : Int), ((x / 2 : Nat) : Int)⟩, t⟩]) else none else none)
theorem apl_mono (k : Nat) (h0 h1 h2 h3 h4 h5 : Int) (T H : List (List Int)) : ∀ d h i1 i2 x seed L, LeO (apl k h0 h1 h2 h3 h4 h5 T H d h i1 i2 x seed L) (apl (k + 1) h0 h1 h2 h3 h4 h5 T H d h i1 i2 x seed L)
  | 0, _, _, _, _, _, _ => LeO.refl _
  | d + 1, h, i1, i2, x, seed, L => LeO.ite (LeO.ite (LeO.bind (impl_toy_HashChildren.mono _ _ _ _ _ _ _ _ _) fun _ => LeO.ite (apl_mono k h0 h1 h2 h3 h4 h5 T H d _ _ _ _ _ _) (LeO.none _)) (LeO.none _)) (LeO.ite (LeO.bind (impl_toy_HashChildren.mono _ _ _ _ _ _ _ _ _) fun _ => LeO.ite (apl_mono k h0 h1 h2 h3 h4 h5 T H d _ _ _ _ _ _) (LeO.none _)) (LeO.none _))
def okA (br s : Nat) (vs : Value) : Nat → Prop := fun k => k ≠ br ∧ k ≠ s ∧ some k ≠ vs.ownBlock
def okB (br s : Nat) (vs v : Value) : Nat → Prop := fun k => okA br s vs k ∧ some k ≠ v.ownBlock
def Moved (n : Nat) (v v' : Value) : Prop := v'.ownBlock = v.ownBlock ∨ ∃ b, v'.ownBlock = some b ∧ n ≤ b
theorem Moved.refl (n : Nat) (v : Value) : Moved n v v := Or.inl rfl
theorem Moved.trans {n n' : Nat} {v v' v'' : Value} (h : Moved n v v') (h' : Moved n' v' v'') (hn : n ≤ n') : Moved n v v'' := by
  rcases h' with e | ⟨b, e, hb⟩
  · rcases h with e2 | ⟨b, e2, hb⟩
    · exact Or.inl (e.trans e2)
    · exact Or.inr ⟨b, e.trans e2, hb⟩
  · exact Or.inr ⟨b, e, Nat.le_trans hn hb⟩
theorem Moved.ne {n k : Nat} {v v' : Value} (h : Moved n v v') (h1 : some k ≠ v.ownBlock) (h2 : k < n) : some k ≠ v'.ownBlock := by
  rcases h with e | ⟨b, e, hb⟩
  · rw [e]; exact h1
  · rw [e]; intro he; injection he with he; omega
theorem okA.after {n br s k : Nat} {v v' : Value} (h : Moved n v v') (hk : okA br s v k ∧ k < n) : okA br s v' k := ⟨hk.1.1, hk.1.2.1, h.ne hk.1.2.2 hk.2⟩
theorem okB.after {n br s k : Nat} {v v' u u' : Value} (h : Moved n v v') (h2 : Moved n u u') (hk : okB br s v u k ∧ k < n) : okB br s v' u' k := ⟨okA.after h ⟨hk.1.1, hk.2⟩, h2.ne hk.1.2 hk.2⟩
def facCells (h0 h1 h2 h3 h4 h5 : Int) : Array Value := #[.func (.func 68) #[.agg #[.int .i64 h0, .int .i64 h1, .int .i64 h2, .int .u64 h3, .int .u64 h4, .int .u64 h5]] #[]]
def rngCells (bf : Nat) (b e : Int) (v : Value) : Array Value := #[.pointer (some ⟨bf, 0, none⟩), .int .u64 b, .int .u64 e, v]
theorem F_belowR {α : Type} {d : Kd α} {w w1 : World} {ok : Nat → Prop} {A : Option Addr} {n : Nat} {xs : List α} (h : Kd.F d w ok A n xs) (hb : Below w.heap.size w w1) : Kd.F d w1 ok A n xs := Kd.F_step h (fun k _ hk => hb.block k hk)
theorem F_keptR {α : Type} {d : Kd α} {w w1 : World} {ok S : Nat → Prop} {A : Option Addr} {n : Nat} {xs : List α} (h : Kd.F d w ok A n xs) (hk : Kept w w1 S) (hne : ∀ k, ok k → ¬ S k) : Kd.F d w1 ok A n xs := Kd.F_step h (fun k ho hlt => hk.2 k hlt (hne k ho))
set_option maxRecDepth 100000 in
theorem mask_fin : ∀ d : Fin 65, IntKind.u64.wrap (IntKind.u64.wrap (2 ^ min d.val 64) - 1) = ((2 ^ d.val - 1 : Nat) : Int) := by decide +kernel
theorem n_row_at {W : World} {base g n cap : Nat} {ok : Nat → Prop} {xs : List (List Int)} (h : Kd.N (Kd.slice 5 (Kd.int .u8)) 42 W base ok (.slice (some ⟨g, 0, none⟩) n cap) xs) (i : Nat) (h1 : i < n) :
    ∃ A c, W.cell? ⟨g, i, none⟩ = some (.slice A (xs.getD i []).length c) ∧ (xs.getD i []).length ≤ c ∧ Kd.F (Kd.int .u8) W (fun k => ok k ∧ k ≠ g) A (xs.getD i []).length (xs.getD i []) := by
  obtain ⟨c', hcl, hf, hcc, hfr⟩ := Kd.N_elem h [] (i : Int) (by omega) (by omega)
  obtain ⟨A, c, rfl, hl, hF⟩ := Kd.FK_slice_open hf
  have h2 := hcc 0 _ rfl
  rw [show (Kd.slice 5 (Kd.int .u8)).sz = 1 from rfl, Nat.mul_one, Nat.add_zero, Int.toNat_natCast] at h2
  rw [Int.toNat_natCast] at hl hF
  exact ⟨A, c, h2, hl, hF⟩
theorem new_okB {w w' : World} {br s : Nat} {P : Nat → Prop} {vs v : Value} {L : List S88} {u : Value} {xs : List Int} (hbr : br < w.heap.size) (hS : Seen w s P vs L) (hv : ∀ k, v.ownBlock = some k → k < w.heap.size) (h : Kd.R (Kd.int .u8) 5 w' w.heap.size (fun _ => True) u xs) :
    ∃ A c, u = .slice A xs.length c ∧ xs.length ≤ c ∧ Kd.F (Kd.int .u8) w' (okB br s vs v) A xs.length xs := by
  obtain ⟨A, c, rfl⟩ := Kd.R_slice h
  refine ⟨A, c, rfl, (Kd.R_reads' h).2.1, Kd.R_F (Kd.R_mono (Kd.R_bound h) fun k hk => ?_)⟩
  have h1 := hk.2.1
  have h2 := hS.lt
  have h3 := Kd.S_lt hS.row
  refine ⟨⟨by omega, by omega, fun he => ?_⟩, fun he => ?_⟩
  · have := h3 k he.symm; omega
  · have := hv k he.symm; omega
theorem rd_L1_nat' (xs : List (List Int)) (i : Nat) : rd_L1 xs (i : Int) = xs.getD i [] := by unfold rd_L1; rw [Int.toNat_natCast]
theorem func_not_nil (f : Nat) (s : Nat) (W : World) : Sem.run Tryd.prog (binOp .neq 168 (.func (.func f) #[] #[.pointer (some ⟨s, 0, none⟩)]) .nilFunc) W = .ok (.bool true) W := by
  have hd : Op.maxDepth = (Op.maxDepth - 1) + 1 := by decide
  have h : Sem.run Tryd.prog (Op.equalIn Op.maxDepth 168 (.func (.func f) #[] #[.pointer (some ⟨s, 0, none⟩)]) .nilFunc) W = .ok false W := by
    rw [hd]
    generalize Op.maxDepth - 1 = m
    simp [Op.equalIn]
  simp [binOp, Op.equal, h, Result.andThen]
theorem Seen.grown {w w1 : World} {s : Nat} {v v1 vs : Value} {L : List S88} (h : Seen w s (fun k => some k ≠ v.ownBlock) vs L) (hg : w.grownBy w1 v.ownBlock) (hm : Moved w.heap.size v v1) (hne : some s ≠ v.ownBlock) : Seen w1 s (fun k => some k ≠ v1.ownBlock) vs L :=
  ⟨blk_grown h.cell hg hne, Kd.S_mono (Kd.S_grown (Kd.S_bound h.row) hg (fun k hk => hk.1.2)) (fun k hk => ⟨hk.1.1, hm.ne hk.1.2 hk.2.2.1⟩)⟩
theorem F_cutR {w : World} {ok : Nat → Prop} {A : Option Addr} {c m : Nat} {xs : List (List Int)} (h : Kd.F (Kd.slice 5 (Kd.int .u8)) w ok A xs.length xs) (hm : m ≤ xs.length) (hc : xs.length ≤ c) : Kd.F (Kd.slice 5 (Kd.int .u8)) w ok (if c = m then A else A.map (·.add (m * 1))) (xs.drop m).length (xs.drop m) := Kd.F_cut h hm hc
def KeptB (w W : World) (S : Nat → Prop) : Prop := Kept w W S ∧ Below 0 w W
theorem KeptB.of_below {w W : World} (h : Below w.heap.size w W) (S : Nat → Prop) : KeptB w W S := ⟨Kept.of_below h S, h.mono (Nat.zero_le _)⟩
theorem KeptB.then_ {w W W2 : World} {S S2 : Nat → Prop} (h : KeptB w W S) (k : KeptB W W2 S2) (hs : ∀ k, S2 k → S k ∨ w.heap.size ≤ k) : KeptB w W2 S := ⟨h.1.then_ k.1 hs, h.2.trans k.2⟩
theorem KeptB.below {w W W2 : World} {S : Nat → Prop} (h : KeptB w W S) (hb : Below W.heap.size W W2) : KeptB w W2 S := ⟨h.1.below hb, h.2.trans (hb.mono (Nat.zero_le _))⟩
theorem KeptB.of_grown {w W W2 : World} {S : Nat → Prop} {row : Option Nat} (hg : W.grownBy W2 row) (h : KeptB w W S) (hr : ∀ k, row = some k → S k ∨ w.heap.size ≤ k) : KeptB w W2 S := ⟨Kept.of_grown hg h.1 hr, pw_below_grown h.2 row (Nat.zero_le _) hg (fun _ _ => Nat.zero_le _)⟩
theorem KeptB.setCell {w W : World} {S : Nat → Prop} (h : KeptB w W S) {p : Addr} (hp : S p.block ∨ w.heap.size ≤ p.block) (u : Value) : KeptB w (W.setCell p u) S := ⟨h.1.setCell hp u, h.2.setCell (Nat.zero_le _) u⟩
theorem KeptB.drew {w W : World} {S : Nat → Prop} (h : KeptB w W S) : KeptB w W.drew S := ⟨h.1.drew, below_drew1 h.2⟩
theorem KeptB.to_below {w W : World} {S : Nat → Prop} {B : Nat} (h : KeptB w W S) (hS : ∀ k, S k → B ≤ k) (hB : B ≤ w.heap.size) : Below B w W := ⟨h.2.os, h.2.tape, h.2.output, h.2.size, fun k hk => h.1.2 k (Nat.lt_of_lt_of_le hk hB) (fun he => absurd (hS k he) (Nat.not_le.mpr hk))⟩
structure VisOk (f : Nat) : Prop where mk ::
  fn : ∃ fn : Func, Tryd.prog.funcs[f]? = some fn ∧ (fn.name == "runtime.NumGoroutine") = false ∧ fn.body.isSome = true
  run : ∀ (lv ix : Int) (A : Option Addr) (c : Nat) (l : List Int) (s : Nat) (P : Nat → Prop) (v : Value) (L : List S88) (w : World), (∀ k, w.heap.size ≤ k → P k) → Seen w s P v L → Kd.C (Kd.int .u8) w A l.length l → l.length ≤ c → L.length < 1000000 → l.length < 140737488355328 →
    Calls Tryd.prog f #[.agg #[.int .u64 lv, .int .u64 ix], .slice A l.length c, .pointer (some ⟨s, 0, none⟩)] w fun e w' => ∃ v0 v' : Value, e = .returned v0 ∧ Seen w' s P v' (L ++ [⟨⟨lv, ix⟩, l⟩]) ∧ KeptB w w' (shows s v) ∧ (v'.ownBlock = v.ownBlock ∨ ∃ b, v'.ownBlock = some b ∧ w.heap.size ≤ b)
theorem f_row_at {W : World} {ok : Nat → Prop} {A : Option Addr} {n : Nat} {xs : List (List Int)} (h : Kd.F (Kd.slice 5 (Kd.int .u8)) W ok A n xs) (i : Nat) (h1 : i < n) :
    ∃ ad A' c, A = some ad ∧ W.cell? (ad.add i) = some (.slice A' (xs.getD i []).length c) ∧ (xs.getD i []).length ≤ c ∧ Kd.F (Kd.int .u8) W ok A' (xs.getD i []).length (xs.getD i []) := by
  obtain ⟨ad, c', hA, hcl, hf, hcc, _⟩ := Kd.F_get h [] (i : Int) (by omega) (by omega)
  obtain ⟨A', c, rfl, hl, hF⟩ := Kd.FK_slice_open hf
  have h2 := hcc 0 _ rfl
  rw [show (Kd.slice 5 (Kd.int .u8)).sz = 1 from rfl, Nat.mul_one, Nat.add_zero, Int.toNat_natCast] at h2
  rw [Int.toNat_natCast] at hl hF
  exact ⟨ad, A', c, hA, h2, hl, hF⟩
theorem S_toV {α : Type} {d : Kd α} {e base b : Nat} {w : World} {ok : Nat → Prop} {v : Value} {xs : List α} (h : Kd.S d e w base ok v xs) (hb : b ≤ base) : Kd.V d e w b (fun k => b ≤ k) v xs := by
  obtain ⟨A, c, rfl⟩ := Kd.S_slice h
  exact Kd.V_mk (Kd.S_reads' h).2.1 (Kd.F_mono (Kd.S_F (Kd.S_bound h)) (fun k hk => Nat.le_trans hb hk.2.1))
def clr (n : Nat) : Nat := n &&& (n - 1)
theorem clr_le (n : Nat) : clr n ≤ n := Nat.and_le_left
theorem clr_eq (n : Nat) (h : n < 18446744073709551616) : Go.bits .and .u64 (n : Int) (IntKind.u64.wrap ((n : Int) - 1)) = ((clr n : Nat) : Int) := by
  rcases Nat.eq_zero_or_pos n with rfl | hp
  · decide
  · have e : IntKind.u64.wrap ((n : Int) - 1) = ((n - 1 : Nat) : Int) := by
      rw [show (n : Int) - 1 = ((n - 1 : Nat) : Int) by omega]
      simp only [IntKind.wrap, IntKind.signed, IntKind.bits]
      first | omega | (simp; omega)
    rw [e]
    exact u64_and_nat n (n - 1) h (by omega)
def rroot (k : Nat) (h0 h1 h2 h3 h4 h5 : Int) (T : List (List Int)) : Nat → List Int → Nat → List S88 → Option (List Int × List S88)
  | 0, hash, _, L => some (hash, L)
  | i + 1, hash, size, L => (impl_toy_HashChildren.f k h0 h1 h2 h3 h4 h5 (T.getD i []) hash).bind fun t => if t.length < 140737488355328 then (bits_TrailingZeros64.f ((clr size : Nat) : Int)).bind fun z => if 0 ≤ z ∧ z < 64 then rroot k h0 h1 h2 h3 h4 h5 T i t (clr size) (L ++ [⟨⟨((z.toNat + 1 : Nat) : Int), ((clr size / 2 ^ (z.toNat + 1) : Nat) : Int)⟩, t⟩]) else none else none
theorem rroot_mono (k : Nat) (h0 h1 h2 h3 h4 h5 : Int) (T : List (List Int)) : ∀ i hash size L, LeO (rroot k h0 h1 h2 h3 h4 h5 T i hash size L) (rroot (k + 1) h0 h1 h2 h3 h4 h5 T i hash size L)
  | 0, _, _, _ => LeO.refl _
  | i + 1, _, _, _ => LeO.bind (impl_toy_HashChildren.mono _ _ _ _ _ _ _ _ _) fun _ => LeO.ite (LeO.bind (LeO.refl _) fun _ => LeO.ite (rroot_mono k h0 h1 h2 h3 h4 h5 T i _ _ _) (LeO.none _)) (LeO.none _)
theorem new_okA {w w' : World} {br s : Nat} {P : Nat → Prop} {vs : Value} {L : List S88} {u : Value} {xs : List Int} (hbr : br < w.heap.size) (hS : Seen w s P vs L) (h : Kd.R (Kd.int .u8) 5 w' w.heap.size (fun _ => True) u xs) :
    ∃ A c, u = .slice A xs.length c ∧ xs.length ≤ c ∧ Kd.F (Kd.int .u8) w' (okA br s vs) A xs.length xs := by
  obtain ⟨A, c, rfl⟩ := Kd.R_slice h
  refine ⟨A, c, rfl, (Kd.R_reads' h).2.1, Kd.R_F (Kd.R_mono (Kd.R_bound h) fun k hk => ?_)⟩
  have h1 := hk.2.1
  have h2 := hS.lt
  have h3 := Kd.S_lt hS.row
  exact ⟨by omega, by omega, fun he => by have := h3 k he.symm; omega⟩
theorem glob_keptG {w w' : World} {S : Nat → Prop} (hG : GlobT w) (hk : Kept w w' S) (hn : ¬ S 0) : GlobT w' := ⟨fun j hj => by
  have h := hG.out j hj
  have hb := hk.2 0 (World.block_lt_of_cell? _ _ h) hn
  rw [← h]
  simp only [World.cell?, hb]⟩
def compact_Range_GetRootHash.T7 : Bool × List (List Nat × List Nat) := (true, [([], []), ([0], [0]), ([], []), ([2], [2]), ([3], [3]), ([4], [4]), ([1, 0, 1], [1]), ([5, 6, 0, 1, 2, 3, 4, 5, 6], [5])])
def compact_Range_GetRootHash.B7 : List Nat := [0, 1, 0, 4, 12, 28, 3, 127]
theorem compact_Range_GetRootHash.tab7 : rtab .any (opsOf Tryd.f71 7) = compact_Range_GetRootHash.T7 := by kernel_rfl
theorem compact_Range_GetRootHash.bits7 : waitsOk compact_Range_GetRootHash.T7.2 compact_Range_GetRootHash.B7 = true := by kernel_rfl
def compact_Range_GetRootHash.T10 : Bool × List (List Nat × List Nat) := (true, [([], []), ([0], [0]), ([1], [1]), ([2], [2]), ([3], [3]), ([4], [4]), ([5], [5]), ([], []), ([7], [7]), ([8], [8]), ([9], [9]), ([], []), ([10, 11], [10, 11]), ([12], [12]), ([], []), ([6, 13, 14], [6, 13, 14]), ([15, 15, 0, 1, 2, 3, 4, 5, 6, 7, 8, 9, 10, 11, 12, 13, 14, 15], [14, 15])])
def compact_Range_GetRootHash.B10 : List Nat := [0, 1, 3, 7, 15, 31, 63, 0, 128, 384, 896, 0, 3968, 8064, 0, 32767, 65535]
theorem compact_Range_GetRootHash.tab10 : rtab .any (opsOf Tryd.f71 10) = compact_Range_GetRootHash.T10 := by kernel_rfl
theorem compact_Range_GetRootHash.bits10 : waitsOk compact_Range_GetRootHash.T10.2 compact_Range_GetRootHash.B10 = true := by kernel_rfl
set_option maxHeartbeats 8000000 in
set_option maxRecDepth 100000 in
theorem compact_Range_GetRootHash.calls (k : Nat) (h0 h1 h2 h3 h4 h5 : Int) (bf br s : Nat) (e : Nat) (vis : Nat) (hV : VisOk vis) (c0 : Nat) (AT : Option Addr) (n : Nat) (T : List (List Int)) (root : List Int) (vs : Value) (L L' : List S88) (w : World) (hGT : GlobT w) (he : e < 18446744073709551616) (hn : T.length = n + 1) (hT1 : T.length ≤ 100000) (hLB : L.length < 800000)
    (hrr : rroot k h0 h1 h2 h3 h4 h5 T n (T.getD n []) e L = some (root, L'))
    (hF : w.heap[bf]? = some (.cells (facCells h0 h1 h2 h3 h4 h5) 117 (0, 0))) (hR : w.heap[br]? = some (.cells (rngCells bf 0 (e : Int) (.slice AT T.length c0)) 167 (0, 0)))
    (hT : Kd.F (Kd.slice 5 (Kd.int .u8)) w (okA br s vs) AT T.length T) (hc : T.length ≤ c0)
    (hS : Seen w s (fun _ => True) vs L) (hbs : br < s) (hfs : bf < s) :
    Calls Tryd.prog 71 #[.pointer (some ⟨br, 0, none⟩), .func (.func vis) #[] #[.pointer (some ⟨s, 0, none⟩)]] w fun e' w' => ∃ (A' : Option Addr) (c' : Nat) (vs' : Value), e' = .returned (.tuple #[.slice A' root.length c', .nilIface]) ∧ root.length ≤ c' ∧ Kd.C (Kd.int .u8) w' A' root.length root ∧ Seen w' s (fun _ => True) vs' L' ∧ KeptB w w' (shows s vs) := by
  have hu38 := Tryd.underlying38
  have hu42 := Tryd.underlying42
  have hu167 := Tryd.underlying167
  have hu117 := Tryd.underlying117
  have hu120 := Tryd.underlying120
  have hnf := func_not_nil vis s
  obtain ⟨vfn, hvf, hvn, hvb⟩ := hV.fn
  have hnsG : ¬ shows s vs 0 := by
    rintro (h | h)
    · omega
    · have := Kd.S_base hS.row 0 h.symm; omega
  have HF := Aside0.mk hF
  have HR := Aside0.mk hR
  have HT := Aside0.mk hT
  have HS := Aside0.mk hS
  have HRR := Aside0.mk hrr
  have HLB := Aside0.mk hLB
  have KP := Aside0.mk (KeptB.of_below (Below.refl w.heap.size w) (shows s vs))
  clear hF hR hT hS hrr hLB
  have hc1 : w.cell? ⟨br, 1, none⟩ = some (.int .u64 0) := (blk_cell HR.out 1).trans rfl
  have hc3 : w.cell? ⟨br, 3, none⟩ = some (.slice AT T.length c0) := (blk_cell HR.out 3).trans rfl
  obtain ⟨ad, A4, c4, eAT, hx4, hl4, hF4⟩ := f_row_at HT.out n (by omega)
  subst eAT
  obtain ⟨el, HEL⟩ : ∃ el, Aside0 (T.getD n [] = el) := ⟨_, ⟨rfl⟩⟩
  have HRR1 := Aside0.mk (HEL.out ▸ HRR.out)
  rw [HEL.out] at hx4 hl4 hF4
  have HL4 := Aside0.mk hl4
  have HF4 := Aside0.mk hF4
  clear hl4 hF4 HRR
  have d0 : ((T.length : Int) = 0) = False := eq_false (by omega)
  have d0' : decide ((T.length : Int) = 0) = false := decide_eq_false (by omega)
  have d0'' : decide (T.length = 0) = false := decide_eq_false (by omega)
  have hw1 : wrap64 ((T.length : Int) - 1) = (n : Int) := by unfold wrap64; omega
  have hw2 : wrap64 ((T.length : Int) - 2) = (n : Int) - 1 := by unfold wrap64; omega
  have li : ((n : Int) < (T.length : Int)) = True := eq_true (by omega)
  have li0 : ((0 : Int) ≤ (n : Int)) = True := eq_true (by omega)
  have HN := Aside0.mk hn
  have hw2' : wrap64 ((n : Int) + 1 - 2) = (n : Int) - 1 := by unfold wrap64; omega
  go_enter Tryd.func71, Tryd.ntmps71
  go_wp2
  have hb7 : Below w.heap.size w w.drew := below_drew1 (Below.refl w.heap.size w)
  have HF1 := Aside0.mk (blk_below HF.out hb7)
  have HR1 := Aside0.mk (blk_below HR.out hb7)
  have HT1 := Aside0.mk (F_belowR HT.out hb7)
  have HS1 := Aside0.mk (HS.out.below hb7)
  clear HF HR HT HS
  have HF := HF1
  have HR := HR1
  have HT := HT1
  have HS := HS1
  clear HF1 HR1 HT1 HS1
  have KP1 := Aside0.mk KP.out.drew
  have HF41 := Aside0.mk (F_belowR HF4.out hb7)
  clear KP hb7 hc1 hc3 HF4
  have KP := KP1
  have HF4 := HF41
  clear KP1 HF41
  refine start_ (n := 8) (S := fun w' => w'.cell? ⟨br, 2, none⟩ = some (.int .u64 (e : Int))) (ds := []) #[false, false, false, false, false, false, false, false] (by kernel_rfl) rfl rfl ((blk_cell HR.out 2).trans rfl) (fun hHeld => ?_)
  refine with_tabW compact_Range_GetRootHash.tab7 compact_Range_GetRootHash.bits7 (fun HT_ HW_ => ?_)
  generalize w.drew = w1 at HF HR HT HS KP HF4 hHeld ⊢
  refine pure_ (i := 0) (N := (some 33)) (v := ?_) (a' := ?_) #[true, false, false, false, false, false, false, false] rfl rfl (any_of HT_.out (by kernel_rfl)) (fun _ _ _ h => h) (Or.inl ⟨by rfl, ?_⟩) ?_ ?_
  rotate_left
  · intro w'
    go_simp
    with_reducible rfl
  rotate_left
  · simp only [Act.put, List.setIfInBounds_toArray, List.set_cons_zero, List.set_cons_succ, i64_w, i32_w]
    rfl
  refine pure_ (i := 1) (N := (some 34)) (v := ?_) (a' := ?_) #[true, true, false, false, false, false, false, false] rfl rfl (any_of HT_.out (by kernel_rfl)) (fun _ _ _ h => h) (Or.inl ⟨by rfl, ?_⟩) ?_ ?_
  rotate_left
  · intro w'
    go_simp
    with_reducible rfl
  rotate_left
  · simp only [Act.put, List.setIfInBounds_toArray, List.set_cons_zero, List.set_cons_succ, i64_w, i32_w]
    rfl
  refine pure_ (i := 2) (N := (some 35)) (v := ?_) (a' := ?_) #[true, true, true, false, false, false, false, false] rfl rfl (any_of HT_.out (by kernel_rfl)) (fun _ _ _ h => h) (Or.inl ⟨by rfl, ?_⟩) ?_ ?_
  rotate_left
  · intro w'
    go_simp
    with_reducible rfl
  rotate_left
  · simp only [Act.put, List.setIfInBounds_toArray, List.set_cons_zero, List.set_cons_succ, i64_w, i32_w]
    rfl
  refine pure_ (i := 3) (N := (some 36)) (v := ?_) (a' := ?_) #[true, true, true, true, false, false, false, false] rfl rfl (any_of HT_.out (by kernel_rfl)) (fun _ _ _ h => h) (Or.inl ⟨by rfl, ?_⟩) ?_ ?_
  rotate_left
  · intro w'
    go_simp
    with_reducible rfl
  rotate_left
  · simp only [Act.put, List.setIfInBounds_toArray, List.set_cons_zero, List.set_cons_succ, i64_w, i32_w]
    rfl
  refine pure_ (i := 4) (N := (some 37)) (v := ?_) (a' := ?_) #[true, true, true, true, true, false, false, false] rfl rfl (any_of HT_.out (by kernel_rfl)) (fun _ _ _ h => h) (Or.inl ⟨by rfl, ?_⟩) ?_ ?_
  rotate_left
  · intro w'
    go_simp
    with_reducible rfl
  rotate_left
  · simp only [Act.put, List.setIfInBounds_toArray, List.set_cons_zero, List.set_cons_succ, i64_w, i32_w]
    rfl
  refine take_ (i := 5) (N := (some 38)) (v := ?_) (a' := ?_) #[true, true, true, true, true, true, false, false] rfl rfl (take_ofW HT_.out HW_.out (by kernel_rfl)) (fun _ _ _ h => h) (Or.inl ⟨by rfl, ?_⟩) hHeld ?_ ?_
  rotate_left
  · intro w' s0
    go_simp
    with_reducible rfl
  rotate_left
  · simp only [Act.put, List.setIfInBounds_toArray, List.set_cons_zero, List.set_cons_succ, i64_w, i32_w]
    rfl
  refine pure_ (i := 6) (N := (some 8)) (v := ?_) (a' := ?_) #[true, true, true, true, true, true, true, false] rfl rfl (any_of HT_.out (by kernel_rfl)) (fun _ _ _ h => h) (Or.inl ⟨by rfl, ?_⟩) ?_ ?_
  rotate_left
  · intro w'
    go_simp
    with_reducible rfl
  rotate_left
  · simp only [Act.put, List.setIfInBounds_toArray, List.set_cons_zero, List.set_cons_succ, i64_w, i32_w]
    rfl
  refine pure_ (i := 7) (N := (some 9)) (v := ?_) (a' := ?_) #[true, true, true, true, true, true, true, true] rfl rfl (any_of HT_.out (by kernel_rfl)) (fun _ _ _ h => h) (Or.inl ⟨by rfl, ?_⟩) ?_ ?_
  rotate_left
  · intro w'
    go_simp
    with_reducible rfl
  rotate_left
  · simp only [Act.put, List.setIfInBounds_toArray, List.set_cons_zero, List.set_cons_succ, i64_w, i32_w]
    rfl
  refine done_ (done_of HT_.out (by kernel_rfl)) ?_
  go_wp2
  have hb0 : ((n : Int) + 1 == 0) = false := by simp; omega
  try simp only [Act.put, List.setIfInBounds_toArray, List.set_cons_zero, List.set_cons_succ, hw2', hb0]
  clear hn
  go_loopg [7, 8, 9] n (fun kq v7 v8 v9 w' => ∃ (hd : List Int) (A : Option Addr) (c : Nat) (i1 : Int) (sz : Nat) (vs1 : Value) (L1 : List S88), v7 = .slice A hd.length c ∧ v8 = .int .i64 i1 ∧ v9 = .int .u64 (sz : Int) ∧ Aside0 (i1 = (kq : Int) - 1 ∧ kq ≤ n ∧ sz < 18446744073709551616 ∧ hd.length ≤ c ∧ L1.length + kq ≤ L.length + n) ∧ Aside0 (rroot k h0 h1 h2 h3 h4 h5 T kq hd sz L1 = some (root, L')) ∧ Aside0 (w'.heap[bf]? = some (.cells (facCells h0 h1 h2 h3 h4 h5) 117 (0, 0))) ∧ Aside0 (w'.heap[br]? = some (.cells (rngCells bf 0 (e : Int) (.slice (some ad) T.length c0)) 167 (0, 0))) ∧ Aside0 (Kd.F (Kd.slice 5 (Kd.int .u8)) w' (okA br s vs1) (some ad) T.length T) ∧ Aside0 (Kd.F (Kd.int .u8) w' (okA br s vs1) A hd.length hd) ∧ Aside0 (Seen w' s (fun _ => True) vs1 L1) ∧ Aside0 (KeptB w w' (shows s vs)) ∧ Aside0 (Moved w.heap.size vs vs1))
  case atStart => exact ⟨el, A4, c4, (n : Int) - 1, e, vs, L, rfl, rfl, rfl, ⟨rfl, Nat.le_refl _, he, HL4.out, Nat.le_refl _⟩, HRR1, HF, HR, HT, HF4, HS, KP, ⟨Moved.refl _ _⟩⟩
  case round =>
    clear HF HR HT HF4 HS KP HRR1 HL4
    obtain ⟨hd, A, c, i1, sz, vs1, L1, rfl, rfl, rfl, HQ, HRR, HF, HR, HT, HH, HS, KP, HV⟩ := hrel
    rcases gk with _ | j
    · obtain ⟨g1, g2, g3, g4, g5⟩ := HQ.out
      obtain rfl : i1 = -1 := by rw [g1]; rfl
      have H := HRR.out
      simp only [rroot, Option.some.injEq, Prod.mk.injEq] at H
      obtain ⟨rfl, rfl⟩ := H
      clear g1
      go_wp2
      go_ret2
      exact ⟨A, c, vs1, rfl, g4, Kd.F_now HH.out, HS.out, KP.out⟩
    · obtain rfl : i1 = (j : Int) := by have := HQ.out.1; omega
      have cz : decide ((j : Int) ≥ 0) = true := decide_eq_true (by omega)
      have cz' : decide ((0 : Int) ≤ (j : Int)) = true := decide_eq_true (by omega)
      have H := HRR.out
      simp only [rroot] at H
      obtain ⟨t, hA1, H⟩ := Option.bind_eq_some_iff.mp H
      by_cases htl : t.length < 140737488355328
      case neg => rw [if_neg htl] at H; cases H
      rw [if_pos htl] at H
      obtain ⟨z, hA2, H⟩ := Option.bind_eq_some_iff.mp H
      by_cases hz : 0 ≤ z ∧ z < 64
      case neg => rw [if_neg hz] at H; cases H
      rw [if_pos hz] at H
      obtain ⟨hz1, hz2⟩ := hz
      obtain ⟨zn, rfl⟩ := Int.eq_ofNat_of_zero_le hz1
      rw [Int.toNat_natCast] at H
      obtain ⟨z2, hz2_, HZ2⟩ : ∃ z2 : Nat, Go.bits .and .u64 (sz : Int) (IntKind.u64.wrap ((sz : Int) - 1)) = (z2 : Int) ∧ Aside0 (z2 = clr sz) := ⟨_, clr_eq sz HQ.out.2.2.1, ⟨rfl⟩⟩
      rw [← HZ2.out] at H hA2
      obtain ⟨lv, hlv, HLV⟩ : ∃ lv : Nat, IntKind.u64.wrap ((zn : Int) + 1) = (lv : Int) ∧ Aside0 (lv = zn + 1) := ⟨zn + 1, by simp only [IntKind.wrap, IntKind.signed, IntKind.bits]; first | omega | (simp; omega), ⟨rfl⟩⟩
      rw [← HLV.out] at H
      obtain ⟨ix, hix, HIX⟩ : ∃ ix : Nat, (z2 : Int) / 2 ^ min lv 64 = (ix : Int) ∧ Aside0 (ix = z2 / 2 ^ lv) := ⟨z2 / 2 ^ lv, by rw [show min lv 64 = lv by have := HLV.out; omega, Int.natCast_ediv, Int.natCast_pow]; rfl, ⟨rfl⟩⟩
      rw [← HIX.out] at H
      have hzw : IntKind.u64.wrap (zn : Int) = (zn : Int) := by simp only [IntKind.wrap, IntKind.signed, IntKind.bits]; first | omega | (simp; omega)
      have HA1 := Aside0.mk hA1
      have HA2 := Aside0.mk hA2
      have HRR1 := Aside0.mk H
      have HTL := Aside0.mk htl
      have HZ := Aside0.mk hz2
      have hjn : j < n := by have := HQ.out.2.1; omega
      obtain ⟨ad', A4, c4, eAT, hx4, hl4, hi4⟩ := f_row_at HT.out j (by have := HN.out; omega)
      injection eAT with eAT
      subst eAT
      obtain ⟨el, HEL⟩ : ∃ el, Aside0 (T.getD j [] = el) := ⟨_, ⟨rfl⟩⟩
      rw [HEL.out] at hx4 hl4 hi4
      have HA1' := Aside0.mk (HEL.out ▸ HA1.out)
      have HX4 := Aside0.mk hx4
      have HL4 := Aside0.mk hl4
      have HI4 := Aside0.mk (Kd.F_now hi4)
      have HCL := Aside0.mk HQ.out.2.2.2.1
      clear H hA1 hA2 htl hz1 hz2 hx4 hl4 hi4 HRR HA1
      have li : ((j : Int) < (T.length : Int)) = True := eq_true (by have := HN.out; omega)
      have li0 : ((0 : Int) ≤ (j : Int)) = True := eq_true (by omega)
      have hwj : wrap64 ((j : Int) - 1) = (j : Int) - 1 := by have := HN.out; unfold wrap64; omega
      go_wp2
      refine start_ (n := 17) (S := fun w' => w'.cell? ⟨br, 0, none⟩ = some (.pointer (some ⟨bf, 0, none⟩)) ∧ w'.cell? ⟨bf, 0, none⟩ = some (.func (.func 68) #[.agg #[.int .i64 h0, .int .i64 h1, .int .i64 h2, .int .u64 h3, .int .u64 h4, .int .u64 h5]] #[]) ∧ w'.cell? ⟨br, 3, none⟩ = some (.slice (some ad) T.length c0) ∧ w'.cell? (ad.add j) = some (.slice A4 el.length c4)) (ds := []) #[false, false, false, false, false, false, false, false, false, false, false, false, false, false, false, false, false] (by kernel_rfl) rfl rfl (⟨(blk_cell (blk_drew HR.out) 0).trans rfl, (blk_cell (blk_drew HF.out) 0).trans rfl, (blk_cell (blk_drew HR.out) 3).trans rfl, HX4.out⟩) (fun hHeld => ?_)
      refine with_tabW compact_Range_GetRootHash.tab10 compact_Range_GetRootHash.bits10 (fun HT_ HW_ => ?_)
      refine pure_ (i := 0) (N := (some 43)) (v := ?_) (a' := ?_) #[true, false, false, false, false, false, false, false, false, false, false, false, false, false, false, false, false] rfl rfl (any_of HT_.out (by kernel_rfl)) (fun _ _ _ h => h) (Or.inl ⟨by rfl, ?_⟩) ?_ ?_
      rotate_left
      · intro w'
        go_simp
        with_reducible rfl
      rotate_left
      · simp only [Act.put, List.setIfInBounds_toArray, List.set_cons_zero, List.set_cons_succ, i64_w, i32_w]
        rfl
      refine pure_ (i := 1) (N := (some 44)) (v := ?_) (a' := ?_) #[true, true, false, false, false, false, false, false, false, false, false, false, false, false, false, false, false] rfl rfl (any_of HT_.out (by kernel_rfl)) (fun _ _ _ h => h) (Or.inl ⟨by rfl, ?_⟩) ?_ ?_
      rotate_left
      · intro w'
        go_simp
        with_reducible rfl
      rotate_left
      · simp only [Act.put, List.setIfInBounds_toArray, List.set_cons_zero, List.set_cons_succ, i64_w, i32_w]
        rfl
      refine pure_ (i := 2) (N := (some 45)) (v := ?_) (a' := ?_) #[true, true, true, false, false, false, false, false, false, false, false, false, false, false, false, false, false] rfl rfl (any_of HT_.out (by kernel_rfl)) (fun _ _ _ h => h) (Or.inl ⟨by rfl, ?_⟩) ?_ ?_
      rotate_left
      · intro w'
        go_simp
        with_reducible rfl
      rotate_left
      · simp only [Act.put, List.setIfInBounds_toArray, List.set_cons_zero, List.set_cons_succ, i64_w, i32_w]
        rfl
      refine take_ (i := 3) (N := (some 46)) (v := ?_) (a' := ?_) #[true, true, true, true, false, false, false, false, false, false, false, false, false, false, false, false, false] rfl rfl (take_ofW HT_.out HW_.out (by kernel_rfl)) (fun _ _ _ h => h) (Or.inl ⟨by rfl, ?_⟩) hHeld ?_ ?_
      rotate_left
      · rintro w' ⟨s0, s1, s2, s3⟩
        go_simp
        with_reducible rfl
      rotate_left
      · simp only [Act.put, List.setIfInBounds_toArray, List.set_cons_zero, List.set_cons_succ, i64_w, i32_w]
        rfl
      refine pure_ (i := 4) (N := (some 47)) (v := ?_) (a' := ?_) #[true, true, true, true, true, false, false, false, false, false, false, false, false, false, false, false, false] rfl rfl (any_of HT_.out (by kernel_rfl)) (fun _ _ _ h => h) (Or.inl ⟨by rfl, ?_⟩) ?_ ?_
      rotate_left
      · intro w'
        go_simp
        with_reducible rfl
      rotate_left
      · simp only [Act.put, List.setIfInBounds_toArray, List.set_cons_zero, List.set_cons_succ, i64_w, i32_w]
        rfl
      refine pure_ (i := 5) (N := (some 48)) (v := ?_) (a' := ?_) #[true, true, true, true, true, true, false, false, false, false, false, false, false, false, false, false, false] rfl rfl (any_of HT_.out (by kernel_rfl)) (fun _ _ _ h => h) (Or.inl ⟨by rfl, ?_⟩) ?_ ?_
      rotate_left
      · intro w'
        go_simp
        with_reducible rfl
      rotate_left
      · simp only [Act.put, List.setIfInBounds_toArray, List.set_cons_zero, List.set_cons_succ, i64_w, i32_w]
        rfl
      refine take_ (i := 6) (N := (some 49)) (v := ?_) (a' := ?_) #[true, true, true, true, true, true, true, false, false, false, false, false, false, false, false, false, false] rfl rfl (take_ofW HT_.out HW_.out (by kernel_rfl)) (fun _ _ _ h => h) (Or.inl ⟨by rfl, ?_⟩) hHeld ?_ ?_
      rotate_left
      · rintro w' ⟨s0, s1, s2, s3⟩
        go_simp
        with_reducible rfl
      rotate_left
      · simp only [Act.put, List.setIfInBounds_toArray, List.set_cons_zero, List.set_cons_succ, i64_w, i32_w]
        rfl
      refine pure_ (i := 7) (N := (some 50)) (v := ?_) (a' := ?_) #[true, true, true, true, true, true, true, true, false, false, false, false, false, false, false, false, false] rfl rfl (any_of HT_.out (by kernel_rfl)) (fun _ _ _ h => h) (Or.inl ⟨by rfl, ?_⟩) ?_ ?_
      rotate_left
      · intro w'
        go_simp
        with_reducible rfl
      rotate_left
      · simp only [Act.put, List.setIfInBounds_toArray, List.set_cons_zero, List.set_cons_succ, i64_w, i32_w]
        rfl
      refine pure_ (i := 8) (N := (some 51)) (v := ?_) (a' := ?_) #[true, true, true, true, true, true, true, true, true, false, false, false, false, false, false, false, false] rfl rfl (any_of HT_.out (by kernel_rfl)) (fun _ _ _ h => h) (Or.inl ⟨by rfl, ?_⟩) ?_ ?_
      rotate_left
      · intro w'
        go_simp
        with_reducible rfl
      rotate_left
      · simp only [Act.put, List.setIfInBounds_toArray, List.set_cons_zero, List.set_cons_succ, i64_w, i32_w]
        rfl
      refine pure_ (i := 9) (N := (some 52)) (v := ?_) (a' := ?_) #[true, true, true, true, true, true, true, true, true, true, false, false, false, false, false, false, false] rfl rfl (any_of HT_.out (by kernel_rfl)) (fun _ _ _ h => h) (Or.inl ⟨by rfl, ?_⟩) ?_ ?_
      rotate_left
      · intro w'
        go_simp
        with_reducible rfl
      rotate_left
      · simp only [Act.put, List.setIfInBounds_toArray, List.set_cons_zero, List.set_cons_succ, i64_w, i32_w]
        rfl
      refine take_ (i := 10) (N := (some 53)) (v := ?_) (a' := ?_) #[true, true, true, true, true, true, true, true, true, true, true, false, false, false, false, false, false] rfl rfl (take_ofW HT_.out HW_.out (by kernel_rfl)) (fun _ _ _ h => h) (Or.inl ⟨by rfl, ?_⟩) hHeld ?_ ?_
      rotate_left
      · rintro w' ⟨s0, s1, s2, s3⟩
        go_simp
        with_reducible rfl
      rotate_left
      · simp only [Act.put, List.setIfInBounds_toArray, List.set_cons_zero, List.set_cons_succ, i64_w, i32_w]
        rfl
      refine pure_ (i := 11) (N := (some 54)) (v := ?_) (a' := ?_) #[true, true, true, true, true, true, true, true, true, true, true, true, false, false, false, false, false] rfl rfl (any_of HT_.out (by kernel_rfl)) (fun _ _ _ h => h) (Or.inl ⟨by rfl, ?_⟩) ?_ ?_
      rotate_left
      · intro w'
        go_simp
        with_reducible rfl
      rotate_left
      · simp only [Act.put, List.setIfInBounds_toArray, List.set_cons_zero, List.set_cons_succ, i64_w, i32_w]
        rfl
      refine pure_ (i := 12) (N := (some 55)) (v := ?_) (a' := ?_) #[true, true, true, true, true, true, true, true, true, true, true, true, true, false, false, false, false] rfl rfl (any_of HT_.out (by kernel_rfl)) (fun _ _ _ h => h) (Or.inl ⟨by rfl, ?_⟩) ?_ ?_
      rotate_left
      · intro w'
        go_simp
        with_reducible rfl
      rotate_left
      · simp only [Act.put, List.setIfInBounds_toArray, List.set_cons_zero, List.set_cons_succ, i64_w, i32_w]
        rfl
      refine take_ (i := 13) (N := (some 56)) (v := ?_) (a' := ?_) #[true, true, true, true, true, true, true, true, true, true, true, true, true, true, false, false, false] rfl rfl (take_ofW HT_.out HW_.out (by kernel_rfl)) (fun _ _ _ h => h) (Or.inl ⟨by rfl, ?_⟩) hHeld ?_ ?_
      rotate_left
      · rintro w' ⟨s0, s1, s2, s3⟩
        go_simp
        with_reducible rfl
      rotate_left
      · simp only [Act.put, List.setIfInBounds_toArray, List.set_cons_zero, List.set_cons_succ, i64_w, i32_w]
        rfl
      refine pure_ (i := 14) (N := (some 57)) (v := ?_) (a' := ?_) #[true, true, true, true, true, true, true, true, true, true, true, true, true, true, true, false, false] rfl rfl (any_of HT_.out (by kernel_rfl)) (fun _ _ _ h => h) (Or.inl ⟨by rfl, ?_⟩) ?_ ?_
      rotate_left
      · intro w'
        go_simp
        with_reducible rfl
      rotate_left
      · simp only [Act.put, List.setIfInBounds_toArray, List.set_cons_zero, List.set_cons_succ, i64_w, i32_w]
        rfl
      refine one_ (i := 15) (N := (some 58)) #[true, true, true, true, true, true, true, true, true, true, true, true, true, true, true, true, false] rfl rfl (one_of HT_.out (by kernel_rfl)) (by decide) (fun K hK => ?_)
      refine goesF_ Tryd.func68 (by kernel_rfl) rfl (v := .agg #[.int .i64 h0, .int .i64 h1, .int .i64 h2, .int .u64 h3, .int .u64 h4, .int .u64 h5]) #[.slice A4 el.length c4, .slice A hd.length c] #[.agg #[.int .i64 h0, .int .i64 h1, .int .i64 h2, .int .u64 h3, .int .u64 h4, .int .u64 h5], .slice A4 el.length c4, .slice A hd.length c] (by rfl) rfl rfl rfl (by (try simp only [List.map_toArray, List.map_cons, List.map_nil]); first | done | rfl) rfl ?_
      with_reducible refine (impl_toy_HashChildren.calls k h0 h1 h2 h3 h4 h5 _ _ _ _ _ _ _ _ (Kd.C_drew HI4.out) HL4.out (Kd.C_drew (Kd.F_now HH.out)) HCL.out HA1'.out).mono ?_
      rintro e8 w8 ⟨v5, rfl, ho8, hb8⟩
      refine ⟨_, rfl, ?_⟩
      obtain ⟨A5, c5, e5, hc5, hf5⟩ := new_okA (br := br) (blk_lt (blk_drew HR.out)) ⟨blk_drew HS.out.cell, Kd.S_drew HS.out.row⟩ ho8
      subst e5
      have HSD := Aside0.mk hf5
      have HC5 := Aside0.mk hc5
      have hb9 := below_drew1 (Below.refl wr.heap.size wr)
      have hb10 : Below wr.heap.size wr w8 := below_step hb9 hb8
      have HF1 := Aside0.mk (blk_below HF.out hb10)
      have HR1 := Aside0.mk (blk_below HR.out hb10)
      have HT1 := Aside0.mk (F_belowR HT.out hb10)
      have HS1 := Aside0.mk (HS.out.below hb10)
      clear HF HR HT HS
      have HF := HF1
      have HR := HR1
      have HT := HT1
      have HS := HS1
      clear HF1 HR1 HT1 HS1
      have KP1 := Aside0.mk (KP.out.below hb10)
      clear KP HH ho8 hf5 hc5 hb9 hb10 HCL
      have KP := KP1
      clear KP1
      refine hK.out _ _ ⟨(blk_cell HR.out 0).trans rfl, (blk_cell HF.out 0).trans rfl, (blk_cell HR.out 3).trans rfl, (hb8.cell (World.block_lt_of_cell? _ _ HX4.out)).trans HX4.out⟩ (fun hHeld => ?_)
      clear hb8
      clear hK K
      refine norm_ (a' := ?_) ?_ ?_
      rotate_left
      · show Act.put _ (some 58) _ = _
        simp only [Act.put, List.setIfInBounds_toArray, List.set_cons_zero, List.set_cons_succ, i64_w, i32_w]
        rfl
      refine pure_ (i := 16) (N := (some 7)) (v := ?_) (a' := ?_) #[true, true, true, true, true, true, true, true, true, true, true, true, true, true, true, true, true] rfl rfl (any_of HT_.out (by kernel_rfl)) (fun _ _ _ h => h) (Or.inl ⟨by rfl, ?_⟩) ?_ ?_
      rotate_left
      · intro w'
        go_simp
        with_reducible rfl
      rotate_left
      · simp only [Act.put, List.setIfInBounds_toArray, List.set_cons_zero, List.set_cons_succ, i64_w, i32_w]
        rfl
      refine done_ (done_of HT_.out (by kernel_rfl)) ?_
      go_wp2_with (first | ((with_reducible refine gate_callee (f := 109) rfl ?_); refine goesL_ (some 66) rfl rfl Tryd.func109 (by kernel_rfl) rfl #[.int .u64 (z2 : Int)] rfl (by (try simp only [List.map_toArray, List.map_cons, List.map_nil]); first | done | rfl) ?_; (with_reducible refine (bits_TrailingZeros64.calls _ _ _ ?gt HA2.out).mono ?_); (case gt => exact glob_keptG hGT KP.out.1 hnsG); rintro e7 w7 ⟨rfl, hd⟩; refine ⟨_, rfl, ?_⟩ ; (have hb7 : Below w8.heap.size w8 w7 := by obtain ⟨nn, rfl⟩ := hd; exact pw_below_drewN (Below.refl _ _) nn); (have HB7 := Aside0.mk hb7); clear hd hb7) | ((with_reducible refine gate_callee (f := 107) rfl ?_); refine goesL_ (some 75) rfl rfl Tryd.func107 (by kernel_rfl) rfl #[.int .u64 (lv : Int), .int .u64 (ix : Int)] rfl (by (try simp only [List.map_toArray, List.map_cons, List.map_nil]); first | done | rfl) ?_; (with_reducible refine (compact_NewNodeID.calls (lv : Int) (ix : Int) (lv : Int) (ix : Int) _ rfl).mono ?_); rintro e9 w9 ⟨rfl, hb9⟩; refine ⟨_, rfl, ?_⟩; (have hb10 := below_step HB7.out hb9); (have KP9 := Aside0.mk (KP.out.below hb10)); (have HF9 := Aside0.mk (blk_below HF.out hb10)); (have HR9 := Aside0.mk (blk_below HR.out hb10)); (have HT9 := Aside0.mk (F_belowR HT.out hb10)); (have HS9 := Aside0.mk (HS.out.below hb10)); (have HSD9 := Aside0.mk (F_belowR HSD.out hb10)); clear hb9 hb10) | ((with_reducible refine gate_funcval (t := 72) rfl ?_); refine closL_ (some 77) rfl rfl hvf hvn hvb #[.agg #[.int .u64 (lv : Int), .int .u64 (ix : Int)], .slice A5 t.length c5] #[.agg #[.int .u64 (lv : Int), .int .u64 (ix : Int)], .slice A5 t.length c5, .pointer (some ⟨s, 0, none⟩)] rfl rfl (by (try simp only [List.map_toArray, List.map_cons, List.map_nil]); first | done | rfl) rfl ?_; (refine (hV.run (lv : Int) (ix : Int) A5 c5 t s (fun _ => True) vs1 L1 _ (fun _ _ => trivial) HS9.out (Kd.F_now HSD9.out) HC5.out ?sl HTL.out).mono ?_); (case sl => have := HLB.out; have := HQ.out; have := HN.out; omega); rintro e10 w10 ⟨v0_, vs2, rfl, hS2, hK2, hM2⟩; refine ⟨_, rfl, ?_⟩; (have HS10 := Aside0.mk hS2); (have HK10 := Aside0.mk hK2); (have HM10 := Aside0.mk hM2); clear hS2 hK2 hM2))
      have hvb' : ∀ k, vs1.ownBlock = some k → s + 1 ≤ k := Kd.S_base HS9.out.row
      have hnsF : ¬ shows s vs1 bf := by
        rintro (h | h)
        · omega
        · have := hvb' bf h.symm; omega
      have hnsR : ¬ shows s vs1 br := by
        rintro (h | h)
        · omega
        · have := hvb' br h.symm; omega
      have hnsA : ∀ k, okA br s vs1 k → ¬ shows s vs1 k := fun k hk h => h.elim hk.2.1 hk.2.2
      have HF10 := Aside0.mk (blk_kept HF9.out HK10.out.1 hnsF)
      have HR10 := Aside0.mk (blk_kept HR9.out HK10.out.1 hnsR)
      have HT10 := Aside0.mk (Kd.F_mono (F_keptR (Kd.F_bound HT9.out) HK10.out.1 (fun k hk => hnsA k hk.1)) (fun k hk => okA.after HM10.out hk))
      have HSD10 := Aside0.mk (Kd.F_mono (F_keptR (Kd.F_bound HSD9.out) HK10.out.1 (fun k hk => hnsA k hk.1)) (fun k hk => okA.after HM10.out hk))
      have KP10 := Aside0.mk (KP9.out.then_ HK10.out (S2 := shows s vs1) (fun k hk => by
        rcases hk with h | h
        · exact Or.inl (Or.inl h)
        · rcases HV.out with e_ | ⟨b_, e_, hb_⟩
          · exact Or.inl (Or.inr (h.trans e_))
          · rw [e_] at h; injection h with h; exact Or.inr (by omega)))
      have HV10 := Aside0.mk (HV.out.trans HM10.out KP9.out.1.1)
      go_roundg j
      case measure => omega
      case rel => exact ⟨t, A5, c5, (j : Int) - 1, z2, vs2, L1 ++ [⟨⟨(lv : Int), (ix : Int)⟩, t⟩], rfl, by first | rfl | rw [hwj], rfl, ⟨rfl, by have := HQ.out; omega, by have := HQ.out; have := HZ2.out; have := clr_le sz; omega, HC5.out, by have := HQ.out; rw [List.length_append, List.length_singleton]; omega⟩, HRR1, HF10, HR10, HT10, HSD10, HS10, KP10, HV10⟩
theorem compact_Range_GetRootHash.calls0 (bf br vis s : Nat) (e : Int) (AT : Option Addr) (c0 : Nat) (w : World) (hR : w.heap[br]? = some (.cells (rngCells bf 0 e (.slice AT 0 c0)) 167 (0, 0))) :
    Calls Tryd.prog 71 #[.pointer (some ⟨br, 0, none⟩), .func (.func vis) #[] #[.pointer (some ⟨s, 0, none⟩)]] w fun e' w' => e' = .returned (.tuple #[.slice none 0 0, .nilIface]) ∧ Below w.heap.size w w' := by
  have hu38 := Tryd.underlying38
  have hc1 : w.cell? ⟨br, 1, none⟩ = some (.int .u64 0) := (blk_cell hR 1).trans rfl
  have hc3 : w.cell? ⟨br, 3, none⟩ = some (.slice AT 0 c0) := (blk_cell hR 3).trans rfl
  have HB := Aside0.mk (Below.refl w.heap.size w)
  go_enter Tryd.func71, Tryd.ntmps71
  go_wp2
  go_ret2
  exact ⟨rfl, (by repeat (first | (with_reducible first | exact HB.out | apply below_alloc | apply pw_below_drewN | apply below_drew1) | exact HB.out))⟩
theorem compact_Range_GetRootHash.callsE (bf br vis s : Nat) (b e : Int) (v : Value) (hb0 : ¬ b = 0) (w : World) (hR : w.heap[br]? = some (.cells (rngCells bf b e v) 167 (0, 0))) :
    Calls Tryd.prog 71 #[.pointer (some ⟨br, 0, none⟩), .func (.func vis) #[] #[.pointer (some ⟨s, 0, none⟩)]] w fun e' w' => ∃ (ty : TypeId) (uu : Value), e' = .returned (.tuple #[.slice none 0 0, .iface ty uu]) ∧ Below w.heap.size w w' := by
  have hc1 : w.cell? ⟨br, 1, none⟩ = some (.int .u64 b) := (blk_cell hR 1).trans rfl
  have d1 : decide (b = 0) = false := decide_eq_false hb0
  have d2 : (b == 0) = false := by simp [hb0]
  have HB := Aside0.mk (Below.refl w.heap.size w)
  go_enter Tryd.func71, Tryd.ntmps71
  go_wp2_with (first | (go_at_call 114; (first | ((refine (errors_New.calls _ (some 0) [] [] _ rfl).mono ?_); rintro e5 w5 ⟨v1, v2, q, rfl, _, _, hb⟩) | ((refine (errors_New.calls _ (some 0) _ rfl).mono ?_); rintro e5 w5 ⟨q, rfl, hb⟩)); (have HB1 := Aside0.mk (below_step HB.out hb)); clear hb HB; have HB := HB1; clear HB1))
  go_ret2
  exact ⟨_, _, rfl, HB.out⟩
def impl_fromNode.f (a0_0 : Int) (a0_1 : Int) : Option (Int × Int) := some (a0_0, a0_1)
set_option maxHeartbeats 8000000 in
set_option maxRecDepth 100000 in
theorem impl_fromNode.calls (a0_0 : Int) (a0_1 : Int) (r1 : Int) (r2 : Int) (w : World) (h : impl_fromNode.f a0_0 a0_1 = some (r1, r2)) :
    Calls Tryd.prog 73 #[.agg #[.int .u64 a0_0, .int .u64 a0_1]] w fun e w' => e = .returned (.agg #[.int .u64 r1, .int .u64 r2]) ∧ Below w.heap.size w w' := by
  have hu107 := Tryd.underlying107
  have hu70 := Tryd.underlying70
  have HB := Aside0.mk (Below.refl w.heap.size w)
  have H : (some (a0_0, a0_1)) = some (r1, r2) := h
  clear h
  simp only [Option.some.injEq, Prod.mk.injEq] at H
  obtain ⟨rfl, rfl⟩ := H
  go_enter Tryd.func73, Tryd.ntmps73
  go_wp2_with (first | ((with_reducible refine gate_dst (N := 1) rfl ?_); refine box_event ?hg (N := 1) ?hd (cs := #[.int .u64 a0_0, .int .u64 a0_1]) (t := 107) ?hr ?_; (case hd => rfl); (case hg => rfl); (case hr => first | (go_simp; done) | (go_simp; rfl)); intro gb226 hg w2 hbox hb; have n0_ := Aside0.mk (below_step (by repeat (first | (with_reducible first | exact HB.out | apply below_alloc | apply pw_below_drewN | apply below_drew1) | exact HB.out)) hb); have n1_ := Aside0.mk (hbox); have n2_ := Aside0.mk ((by rw [hg]; exact (below_size (by repeat (first | (with_reducible first | exact HB.out | apply below_alloc | apply pw_below_drewN | apply below_drew1) | exact HB.out))) : w.heap.size ≤ gb226)); have n3_ := Aside0.mk ((by rw [hg]; exact (below_size (by repeat (first | (with_reducible first | exact HB.out | apply below_alloc | apply pw_below_drewN | apply below_drew1) | exact HB.out))) : w.heap.size ≤ gb226)); clear HB; have HB := n0_; have BK226 := n1_; have GW226 := n2_; have GE226 := n3_; clear n0_ n1_ n2_ n3_; clear hb hbox hg) | ((with_reducible refine gate_dst (N := 2) rfl ?_); refine box_event ?hg (N := 2) ?hd (cs := #[.int .u64 0, .int .u64 0]) (t := 70) ?hr ?_; (case hd => rfl); (case hg => rfl); (case hr => first | (go_simp; done) | (go_simp; rfl)); intro gb227 hg w3 hbox hb; have n0_ := Aside0.mk (blk_below (g := gb226) (o := .cells #[.int .u64 a0_0, .int .u64 a0_1] 107 (0, 0)) (by (with_reducible repeat (first | refine blk_drewN ?_ _ | refine blk_drew ?_ | refine blk_alloc ?_ _)); exact BK226.out) hb); have n1_ := Aside0.mk (below_step (by repeat (first | (with_reducible first | exact HB.out | apply below_alloc | apply pw_below_drewN | apply below_drew1 | refine below_set ?_ GE226.out) | exact HB.out)) hb); have n2_ := Aside0.mk (hbox); have n3_ := Aside0.mk ((by rw [hg]; exact (below_size (by repeat (first | (with_reducible first | exact HB.out | apply below_alloc | apply pw_below_drewN | apply below_drew1 | refine below_set ?_ GE226.out) | exact HB.out))) : w.heap.size ≤ gb227)); have n4_ := Aside0.mk ((by rw [hg]; exact (below_size (by repeat (first | (with_reducible first | exact HB.out | apply below_alloc | apply pw_below_drewN | apply below_drew1 | refine below_set ?_ GE226.out) | exact HB.out))) : w.heap.size ≤ gb227)); have n5_ := Aside0.mk ((by rw [hg]; exact Nat.ne_of_lt (blk_lt (g := gb226) (o := .cells #[.int .u64 a0_0, .int .u64 a0_1] 107 (0, 0)) (by (with_reducible repeat (first | refine blk_drewN ?_ _ | refine blk_drew ?_ | refine blk_alloc ?_ _)); exact BK226.out)) : gb226 ≠ gb227)); have n6_ := Aside0.mk ((by rw [hg]; exact Nat.ne_of_gt (blk_lt (g := gb226) (o := .cells #[.int .u64 a0_0, .int .u64 a0_1] 107 (0, 0)) (by (with_reducible repeat (first | refine blk_drewN ?_ _ | refine blk_drew ?_ | refine blk_alloc ?_ _)); exact BK226.out)) : gb227 ≠ gb226)); clear BK226; clear HB; have BK226 := n0_; have HB := n1_; have BK227 := n2_; have GW227 := n3_; have GE227 := n4_; have NB226_227 := n5_; have NB227_226 := n6_; clear n0_ n1_ n2_ n3_ n4_ n5_ n6_; clear hb hbox hg; have hnb4 := NB226_227.out; have hnc4 := NB227_226.out; have hcz5_0 : w3.cell? ⟨gb226, 0, none⟩ = some (.int .u64 a0_0) := (blk_cell BK226.out 0).trans rfl; have hcz5_1 : w3.cell? ⟨gb226, 1, none⟩ = some (.int .u64 a0_1) := (blk_cell BK226.out 1).trans rfl; have hfz5_0 := blk_frozen BK226.out 0; have hfz5_1 := blk_frozen BK226.out 1; have hcz6_0 : w3.cell? ⟨gb227, 0, none⟩ = some (.int .u64 0) := (blk_cell BK227.out 0).trans rfl; have hcz6_1 : w3.cell? ⟨gb227, 1, none⟩ = some (.int .u64 0) := (blk_cell BK227.out 1).trans rfl; have hfz6_0 := blk_frozen BK227.out 0; have hfz6_1 := blk_frozen BK227.out 1))
  refine bodyPost_ret (results_cell_row rfl _ _ gb227 70 #[.int .u64 a0_0, .int .u64 a0_1] (0, 0) _ rfl (by (with_reducible repeat (first | refine blk_drewN ?_ _ | refine blk_drew ?_ | refine blk_alloc ?_ _)); refine blk_put (cs := #[.int .u64 a0_0, .int .u64 0]) ?_ 1 _ rfl; (with_reducible repeat (first | refine blk_drewN ?_ _ | refine blk_drew ?_ | refine blk_alloc ?_ _)); refine blk_put (cs := #[.int .u64 0, .int .u64 0]) ?_ 0 _ rfl; (with_reducible repeat (first | refine blk_drewN ?_ _ | refine blk_drew ?_ | refine blk_alloc ?_ _)); exact BK227.out) Tryd.underlying70 rfl (by kernel_rfl)) rfl ?_
  exact ⟨by first | rfl | (simp [errW_none, errW_some] <;> rfl) | (simp [*, errW_none, errW_some] <;> rfl), by repeat (first | (with_reducible first | exact HB.out | apply below_alloc | apply pw_below_drewN | apply below_drew1 | refine below_set ?_ GE226.out | refine below_set ?_ GE227.out) | exact HB.out)⟩
def impl_RootHash_1.T1 : Bool × List (List Nat × List Nat) := (true, [([], []), ([], []), ([1], [1]), ([], []), ([], []), ([3, 4, 2], [3, 4]), ([2, 5], [2, 5]), ([6], [6]), ([0, 7, 5], [0, 7]), ([8, 8, 0, 1, 2, 3, 4, 5, 6, 7, 8], [8])])
def impl_RootHash_1.B1 : List Nat := [0, 0, 2, 0, 0, 30, 62, 126, 255, 511]
theorem impl_RootHash_1.tab1 : rtab .any (opsOf Tryd.f72 1) = impl_RootHash_1.T1 := by kernel_rfl
theorem impl_RootHash_1.bits1 : waitsOk impl_RootHash_1.T1.2 impl_RootHash_1.B1 = true := by kernel_rfl
set_option maxHeartbeats 8000000 in
set_option maxRecDepth 100000 in
theorem impl_RootHash_1.calls (lv ix : Int) (A : Option Addr) (c : Nat) (l : List Int) (s : Nat) (P : Nat → Prop) (v : Value) (L : List S88) (w : World) (hP : ∀ k, w.heap.size ≤ k → P k) (hS : Seen w s P v L) (hC : Kd.C (Kd.int .u8) w A l.length l) (hc : l.length ≤ c) (hL : L.length < 1000000) (hll : l.length < 140737488355328) :
    Calls Tryd.prog 72 #[.agg #[.int .u64 lv, .int .u64 ix], .slice A l.length c, .pointer (some ⟨s, 0, none⟩)] w fun e w' => ∃ v0 v' : Value, e = .returned v0 ∧ Seen w' s P v' (L ++ [⟨⟨lv, ix⟩, l⟩]) ∧ KeptB w w' (shows s v) ∧ (v'.ownBlock = v.ownBlock ∨ ∃ b, v'.ownBlock = some b ∧ w.heap.size ≤ b) := by
  have hu43 := Tryd.underlying43
  have hu42 := Tryd.underlying42
  have hu107 := Tryd.underlying107
  have HP := Aside0.mk hP
  have HS := Aside0.mk hS
  have HC := Aside0.mk hC
  clear hS hC hP
  go_enter Tryd.func72, Tryd.ntmps72
  go_wp2_with (first | ((with_reducible refine gate_dst (N := 3) rfl ?_); refine box_event ?hg (N := 3) ?hd (cs := #[.int .u64 lv, .int .u64 ix]) (t := 107) ?hr ?_; (case hd => rfl); (case hg => rfl); (case hr => first | (go_simp; done) | (go_simp; rfl)); intro gb hg w4 hbox hb; (have BK := Aside0.mk hbox); (have HB := Aside0.mk hb); (have GB := Aside0.mk hg); clear hbox hb hg))
  have hgb : gb ≠ s := by
    have h1 := HS.out.lt
    have h2 : gb = w.heap.size := GB.out
    omega
  have HBK := Aside0.mk (blk_drew BK.out)
  have HB1 := Aside0.mk (below_drew1 HB.out)
  clear BK HB
  have HB := HB1
  clear HB1
  refine start_ (n := 10) (S := fun w' => w'.cell? ⟨s, 0, none⟩ = some v ∧ w'.cell? ⟨gb, 0, none⟩ = some (.int .u64 lv) ∧ w'.cell? ⟨gb, 1, none⟩ = some (.int .u64 ix)) (ds := [9]) #[false, false, false, false, false, false, false, false, false, false] (by kernel_rfl) rfl rfl (⟨(blk_cell (HS.out.below HB.out).cell 0).trans rfl, (blk_cell HBK.out 0).trans rfl, (blk_cell HBK.out 1).trans rfl⟩) (fun hHeld => ?_)
  refine with_tabW impl_RootHash_1.tab1 impl_RootHash_1.bits1 (fun HT_ HW_ => ?_)
  generalize w4.drew = w5 at HB HBK hHeld ⊢
  refine take_ (i := 0) (N := (some 5)) (v := ?_) (a' := ?_) #[true, false, false, false, false, false, false, false, false, false] rfl rfl (take_ofW HT_.out HW_.out (by kernel_rfl)) (fun _ _ _ h => h) (Or.inl ⟨by rfl, ?_⟩) hHeld ?_ ?_
  rotate_left
  · rintro w' ⟨s0, s1, s2⟩
    go_simp
    with_reducible rfl
  rotate_left
  · simp only [Act.put, List.setIfInBounds_toArray, List.set_cons_zero, List.set_cons_succ, i64_w, i32_w]
    rfl
  refine take_ (i := 1) (N := (some 6)) (v := ?_) (a' := ?_) #[true, true, false, false, false, false, false, false, false, false] rfl rfl (take_ofW HT_.out HW_.out (by kernel_rfl)) (fun _ _ _ h => h) (Or.inl ⟨by rfl, ?_⟩) hHeld ?_ ?_
  rotate_left
  · rintro w' ⟨s0, s1, s2⟩
    go_simp
    with_reducible rfl
  rotate_left
  · simp only [Act.put, List.setIfInBounds_toArray, List.set_cons_zero, List.set_cons_succ, i64_w, i32_w]
    rfl
  refine pure_ (i := 4) (N := (some 9)) (v := ?_) (a' := ?_) #[true, true, false, false, true, false, false, false, false, false] rfl rfl (any_of HT_.out (by kernel_rfl)) (fun _ _ _ h => h) (Or.inl ⟨by rfl, ?_⟩) ?_ ?_
  rotate_left
  · intro w'
    go_simp
    with_reducible rfl
  rotate_left
  · simp only [Act.put, List.setIfInBounds_toArray, List.set_cons_zero, List.set_cons_succ, i64_w, i32_w]
    rfl
  refine two_ (i := 2) (j := 3) (Ni := (some 7)) (Nj := (some 8)) #[true, true, true, false, true, false, false, false, false, false] #[true, true, false, true, true, false, false, false, false, false] rfl rfl rfl rfl (two_of HT_.out (by kernel_rfl)) (by decide) (by decide) (fun K hK => ?_) (fun K hK => ?_)
  · skip
    refine goes_ Tryd.func73 (by kernel_rfl) rfl #[.agg #[.int .u64 lv, .int .u64 ix]] (by rfl) rfl rfl (by (try simp only [List.map_toArray, List.map_cons, List.map_nil]); first | done | rfl) ?_
    with_reducible refine (impl_fromNode.calls lv ix lv ix _ rfl).mono ?_
    rintro e6 w6 ⟨rfl, hb6⟩
    refine ⟨_, rfl, ?_⟩
    have HB1 := Aside0.mk (below_step HB.out hb6)
    have HBK1 := Aside0.mk (blk_below HBK.out hb6)
    clear hb6 HB HBK
    have HB := HB1
    have HBK := HBK1
    clear HB1 HBK1
    refine hK.out _ _ ⟨(blk_cell (HS.out.below HB.out).cell 0).trans rfl, (blk_cell HBK.out 0).trans rfl, (blk_cell HBK.out 1).trans rfl⟩ (fun hHeld => ?_)
    clear hK K
    refine norm_ (a' := ?_) ?_ ?_
    rotate_left
    · show Act.put _ (some 7) _ = _
      simp only [Act.put, List.setIfInBounds_toArray, List.set_cons_zero, List.set_cons_succ, i64_w, i32_w]
      rfl
    refine one_ (i := 3) (N := (some 8)) #[true, true, true, true, true, false, false, false, false, false] rfl rfl (one_of HT_.out (by kernel_rfl)) (by decide) (fun K hK => ?_)
    refine Kd.R_lit_step (w0 := w) (Kd.int .u8) w.heap.size 5 ?hg (N := 8) ?hd (xs := ([] : List Int)) (inner := []) (ok := fun k => w.heap.size ≤ k) (okp := fun _ => False) ?hr ?hp (fun _ hk => hk.elim) ?hf HB.out HB.out.size (by simp) ?_
    case hd => rfl
    case hg => rfl
    case hr => first | (go_simp; done) | (go_simp; rfl)
    case hp => exact (Reps.none _ _)
    case hf => exact HB.out.size
    intro v8 w8 ho8 hb8 hg8 hnew8
    have HB2 := Aside0.mk hb8
    have HBK2 := Aside0.mk (blk_grown HBK.out hg8 (by simp))
    have HN8 := Aside0.mk (show some gb ≠ v8.ownBlock by obtain ⟨b, e, hle⟩ := hnew8; rw [e]; intro h; injection h with h; have := blk_lt HBK.out; omega)
    have HO8 := Aside0.mk ho8
    clear ho8 hb8 hg8 hnew8 HB HBK
    have HB := HB2
    have HBK := HBK2
    clear HB2 HBK2
    refine hK.out _ _ ⟨(blk_cell (HS.out.below HB.out).cell 0).trans rfl, (blk_cell HBK.out 0).trans rfl, (blk_cell HBK.out 1).trans rfl⟩ (fun hHeld => ?_)
    clear hK K
    refine norm_ (a' := ?_) ?_ ?_
    rotate_left
    · show Act.put _ (some 8) _ = _
      simp only [Act.put, List.setIfInBounds_toArray, List.set_cons_zero, List.set_cons_succ, i64_w, i32_w]
      rfl
    refine one_ (i := 5) (N := (some 10)) #[true, true, true, true, true, true, false, false, false, false] rfl rfl (one_of HT_.out (by kernel_rfl)) (by decide) (fun K hK => ?_)
    refine Kd.R_append_rows_step (Kd.int .u8) (w0 := w) w.heap.size (by rfl) (.tmp 8) (.tmp 9) 42 5 (.int .u8 0) 1 rfl Tryd.underlying42 info5 rfl (by decide) (by omega) v8 [] l _ _ _ (fun k => w.heap.size ≤ k) (fun _ => False) rfl rfl HO8.out (Kd.C_below HC.out HB.out) (fun _ _ h => h) (fun _ h => h.elim) (fun k hk => Nat.le_trans HB.out.size hk) HB.out HB.out.size (by simp; omega) ?_
    intro v10 w10 ho hb hg hat
    rw [List.nil_append] at ho
    obtain ⟨A10, c10, rfl⟩ := Kd.R_slice ho
    have HBK1 := Aside0.mk (blk_grown HBK.out hg HN8.out)
    have HO10 := Aside0.mk ho
    have HB1 := Aside0.mk hb
    clear ho hb hg hat HBK HB HO8 HN8
    have HBK := HBK1
    have HB := HB1
    clear HBK1 HB1
    refine hK.out _ _ ⟨(blk_cell (HS.out.below HB.out).cell 0).trans rfl, (blk_cell HBK.out 0).trans rfl, (blk_cell HBK.out 1).trans rfl⟩ (fun hHeld => ?_)
    clear hK K
    refine norm_ (a' := ?_) ?_ ?_
    rotate_left
    · show Act.put _ (some 10) _ = _
      simp only [Act.put, List.setIfInBounds_toArray, List.set_cons_zero, List.set_cons_succ, i64_w, i32_w]
      rfl
    refine pure_ (i := 6) (N := (some 11)) (v := ?_) (a' := ?_) #[true, true, true, true, true, true, true, false, false, false] rfl rfl (any_of HT_.out (by kernel_rfl)) (fun _ _ _ h => h) (Or.inl ⟨by rfl, ?_⟩) ?_ ?_
    rotate_left
    · intro w'
      go_simp
      with_reducible rfl
    rotate_left
    · simp only [Act.put, List.setIfInBounds_toArray, List.set_cons_zero, List.set_cons_succ, i64_w, i32_w]
      rfl
    refine one_ (i := 7) (N := (some 12)) #[true, true, true, true, true, true, true, true, false, false] rfl rfl (one_of HT_.out (by kernel_rfl)) (by decide) (fun K hK => ?_)
    refine value_ (w1 := w10.alloc (.cells #[.int .u64 lv, .int .u64 ix, .slice A10 l.length c10] 88)) (v := .slice (some ⟨w10.heap.size, 0, none⟩) 1 1) (by rfl) rfl (by first | (go_simp; done) | (go_simp; rfl)) ?_
    refine hK.out _ _ ⟨(blk_cell (blk_alloc (HS.out.below HB.out).cell _) 0).trans rfl, (blk_cell (blk_alloc HBK.out _) 0).trans rfl, (blk_cell (blk_alloc HBK.out _) 1).trans rfl⟩ (fun hHeld => ?_)
    clear hK K
    refine norm_ (a' := ?_) ?_ ?_
    rotate_left
    · show Act.put _ (some 12) _ = _
      simp only [Act.put, List.setIfInBounds_toArray, List.set_cons_zero, List.set_cons_succ, i64_w, i32_w]
      rfl
    refine one_ (i := 8) (N := (some 13)) #[true, true, true, true, true, true, true, true, true, false] rfl rfl (one_of HT_.out (by kernel_rfl)) (by decide) (fun K hK => ?_)
    have hlv : ∀ k, v.ownBlock = some k → k < w.heap.size := Kd.S_lt HS.out.row
    refine Kd.S_append_step k88 (w0 := w10) (s + 1) (by rfl) (.tmp 5) (.tmp 12) 43 88 (.agg #[.int .u64 0, .int .u64 0, .slice none 0 0]) 40 rfl Tryd.underlying43 info88 rfl (by decide) (by omega) v L ⟨⟨lv, ix⟩, l⟩ [.int .u64 lv, .int .u64 ix, .slice A10 l.length c10] (fun k => s < k ∧ P k) (fun k => w.heap.size ≤ k) rfl rfl ?aP ?aK ?aF (Kd.S_mono (Kd.S_below (Kd.S_bound HS.out.row) HB.out) (fun k hk => ⟨hk.1, Nat.not_le.mpr hk.2.2.1⟩)) (Below.refl _ _) ?aS (by omega) ?_
    case aP => exact k88_mkM _ _ _ ⟨⟨lv, ix⟩, l⟩ (Kd.R_lower HO10.out HS.out.lt)
    case aK => exact fun k hk => ⟨⟨Nat.lt_of_lt_of_le HS.out.lt hk, HP.out k hk⟩, fun he => by have := hlv k he.symm; omega⟩
    case aF => exact fun k hk => ⟨Nat.lt_of_lt_of_le HS.out.lt (Nat.le_trans HB.out.size hk), HP.out k (Nat.le_trans HB.out.size hk)⟩
    case aS => exact Nat.lt_of_lt_of_le HS.out.lt HB.out.size
    intro v13 w13 ho hb hg hat
    obtain ⟨A13, c13, e13⟩ := Kd.S_slice ho
    rw [List.length_append, List.length_singleton] at e13
    subst e13
    have hsv : ∀ k, v.ownBlock = some k → s + 1 ≤ k := Kd.S_base HS.out.row
    have HC13 := Aside0.mk (blk_grown (HS.out.below HB.out).cell hg (by intro he; have := hsv s he.symm; omega))
    have HBK1 := Aside0.mk (blk_grown HBK.out hg (by intro he; have := hlv gb he.symm; have := GB.out; omega))
    have HR13 := Aside0.mk ho
    have HK13 := Aside0.mk (KeptB.of_grown hg (KeptB.of_below HB.out (shows s v)) (fun k hk => Or.inl (Or.inr hk.symm)))
    have HA13 := Aside0.mk (show (Value.slice A13 (L.length + 1) c13).ownBlock = v.ownBlock ∨ ∃ b, (Value.slice A13 (L.length + 1) c13).ownBlock = some b ∧ w.heap.size ≤ b by
      rcases hat with hat | ⟨b, e, hle⟩
      · exact Or.inl hat
      · exact Or.inr ⟨b, e, Nat.le_trans HB.out.size hle⟩)
    clear ho hb hg hat hsv hlv HBK HB HO10
    refine hK.out _ _ ⟨(blk_cell HC13.out 0).trans rfl, (blk_cell HBK1.out 0).trans rfl, (blk_cell HBK1.out 1).trans rfl⟩ (fun hHeld => ?_)
    clear hK K
    refine norm_ (a' := ?_) ?_ ?_
    rotate_left
    · show Act.put _ (some 13) _ = _
      simp only [Act.put, List.setIfInBounds_toArray, List.set_cons_zero, List.set_cons_succ, i64_w, i32_w]
      rfl
    have hcx := (blk_cell HC13.out 0).trans rfl
    have hfx := blk_frozen HC13.out 0
    refine last_ (i := 9) (N := none) #[true, true, true, true, true, true, true, true, true, true] rfl rfl (one_of HT_.out (by kernel_rfl)) (by decide) (fun K hK => ?_)
    refine skip_ (w1 := ?_) (by rfl) rfl ?_ ?_
    rotate_left
    · go_simp
      rfl
    refine hK.out _ _ ?_
    clear hK K
    refine done_ (done_of HT_.out (by kernel_rfl)) ?_
    go_wp2
    go_end0
    have hR2 := Kd.S_far (p := ⟨s, 0, none⟩) HR13.out (fun k hk => Nat.ne_of_gt hk.1) (.slice A13 (L.length + 1) c13)
    exact ⟨_, _, rfl, ⟨(blk_set HC13.out 0 _).trans rfl, hR2⟩, HK13.out.setCell (Or.inl (Or.inl rfl)) _, HA13.out⟩
  · skip
    refine Kd.R_lit_step (w0 := w) (Kd.int .u8) w.heap.size 5 ?hg (N := 8) ?hd (xs := ([] : List Int)) (inner := []) (ok := fun k => w.heap.size ≤ k) (okp := fun _ => False) ?hr ?hp (fun _ hk => hk.elim) ?hf HB.out HB.out.size (by simp) ?_
    case hd => rfl
    case hg => rfl
    case hr => first | (go_simp; done) | (go_simp; rfl)
    case hp => exact (Reps.none _ _)
    case hf => exact HB.out.size
    intro v8 w8 ho8 hb8 hg8 hnew8
    have HB2 := Aside0.mk hb8
    have HBK2 := Aside0.mk (blk_grown HBK.out hg8 (by simp))
    have HN8 := Aside0.mk (show some gb ≠ v8.ownBlock by obtain ⟨b, e, hle⟩ := hnew8; rw [e]; intro h; injection h with h; have := blk_lt HBK.out; omega)
    have HO8 := Aside0.mk ho8
    clear ho8 hb8 hg8 hnew8 HB HBK
    have HB := HB2
    have HBK := HBK2
    clear HB2 HBK2
    refine hK.out _ _ ⟨(blk_cell (HS.out.below HB.out).cell 0).trans rfl, (blk_cell HBK.out 0).trans rfl, (blk_cell HBK.out 1).trans rfl⟩ (fun hHeld => ?_)
    clear hK K
    refine norm_ (a' := ?_) ?_ ?_
    rotate_left
    · show Act.put _ (some 8) _ = _
      simp only [Act.put, List.setIfInBounds_toArray, List.set_cons_zero, List.set_cons_succ, i64_w, i32_w]
      rfl
    refine one_ (i := 2) (N := (some 7)) #[true, true, true, true, true, false, false, false, false, false] rfl rfl (one_of HT_.out (by kernel_rfl)) (by decide) (fun K hK => ?_)
    refine goes_ Tryd.func73 (by kernel_rfl) rfl #[.agg #[.int .u64 lv, .int .u64 ix]] (by rfl) rfl rfl (by (try simp only [List.map_toArray, List.map_cons, List.map_nil]); first | done | rfl) ?_
    with_reducible refine (impl_fromNode.calls lv ix lv ix _ rfl).mono ?_
    rintro e6 w6 ⟨rfl, hb6⟩
    refine ⟨_, rfl, ?_⟩
    have HB1 := Aside0.mk (below_step HB.out hb6)
    have HBK1 := Aside0.mk (blk_below HBK.out hb6)
    have HO81 := Aside0.mk (Kd.R_below HO8.out hb6)
    clear hb6 HB HBK HO8
    have HB := HB1
    have HBK := HBK1
    have HO8 := HO81
    clear HB1 HBK1 HO81
    refine hK.out _ _ ⟨(blk_cell (HS.out.below HB.out).cell 0).trans rfl, (blk_cell HBK.out 0).trans rfl, (blk_cell HBK.out 1).trans rfl⟩ (fun hHeld => ?_)
    clear hK K
    refine norm_ (a' := ?_) ?_ ?_
    rotate_left
    · show Act.put _ (some 7) _ = _
      simp only [Act.put, List.setIfInBounds_toArray, List.set_cons_zero, List.set_cons_succ, i64_w, i32_w]
      rfl
    refine one_ (i := 5) (N := (some 10)) #[true, true, true, true, true, true, false, false, false, false] rfl rfl (one_of HT_.out (by kernel_rfl)) (by decide) (fun K hK => ?_)
    refine Kd.R_append_rows_step (Kd.int .u8) (w0 := w) w.heap.size (by rfl) (.tmp 8) (.tmp 9) 42 5 (.int .u8 0) 1 rfl Tryd.underlying42 info5 rfl (by decide) (by omega) v8 [] l _ _ _ (fun k => w.heap.size ≤ k) (fun _ => False) rfl rfl HO8.out (Kd.C_below HC.out HB.out) (fun _ _ h => h) (fun _ h => h.elim) (fun k hk => Nat.le_trans HB.out.size hk) HB.out HB.out.size (by simp; omega) ?_
    intro v10 w10 ho hb hg hat
    rw [List.nil_append] at ho
    obtain ⟨A10, c10, rfl⟩ := Kd.R_slice ho
    have HBK1 := Aside0.mk (blk_grown HBK.out hg HN8.out)
    have HO10 := Aside0.mk ho
    have HB1 := Aside0.mk hb
    clear ho hb hg hat HBK HB HO8 HN8
    have HBK := HBK1
    have HB := HB1
    clear HBK1 HB1
    refine hK.out _ _ ⟨(blk_cell (HS.out.below HB.out).cell 0).trans rfl, (blk_cell HBK.out 0).trans rfl, (blk_cell HBK.out 1).trans rfl⟩ (fun hHeld => ?_)
    clear hK K
    refine norm_ (a' := ?_) ?_ ?_
    rotate_left
    · show Act.put _ (some 10) _ = _
      simp only [Act.put, List.setIfInBounds_toArray, List.set_cons_zero, List.set_cons_succ, i64_w, i32_w]
      rfl
    refine pure_ (i := 6) (N := (some 11)) (v := ?_) (a' := ?_) #[true, true, true, true, true, true, true, false, false, false] rfl rfl (any_of HT_.out (by kernel_rfl)) (fun _ _ _ h => h) (Or.inl ⟨by rfl, ?_⟩) ?_ ?_
    rotate_left
    · intro w'
      go_simp
      with_reducible rfl
    rotate_left
    · simp only [Act.put, List.setIfInBounds_toArray, List.set_cons_zero, List.set_cons_succ, i64_w, i32_w]
      rfl
    refine one_ (i := 7) (N := (some 12)) #[true, true, true, true, true, true, true, true, false, false] rfl rfl (one_of HT_.out (by kernel_rfl)) (by decide) (fun K hK => ?_)
    refine value_ (w1 := w10.alloc (.cells #[.int .u64 lv, .int .u64 ix, .slice A10 l.length c10] 88)) (v := .slice (some ⟨w10.heap.size, 0, none⟩) 1 1) (by rfl) rfl (by first | (go_simp; done) | (go_simp; rfl)) ?_
    refine hK.out _ _ ⟨(blk_cell (blk_alloc (HS.out.below HB.out).cell _) 0).trans rfl, (blk_cell (blk_alloc HBK.out _) 0).trans rfl, (blk_cell (blk_alloc HBK.out _) 1).trans rfl⟩ (fun hHeld => ?_)
    clear hK K
    refine norm_ (a' := ?_) ?_ ?_
    rotate_left
    · show Act.put _ (some 12) _ = _
      simp only [Act.put, List.setIfInBounds_toArray, List.set_cons_zero, List.set_cons_succ, i64_w, i32_w]
      rfl
    refine one_ (i := 8) (N := (some 13)) #[true, true, true, true, true, true, true, true, true, false] rfl rfl (one_of HT_.out (by kernel_rfl)) (by decide) (fun K hK => ?_)
    have hlv : ∀ k, v.ownBlock = some k → k < w.heap.size := Kd.S_lt HS.out.row
    refine Kd.S_append_step k88 (w0 := w10) (s + 1) (by rfl) (.tmp 5) (.tmp 12) 43 88 (.agg #[.int .u64 0, .int .u64 0, .slice none 0 0]) 40 rfl Tryd.underlying43 info88 rfl (by decide) (by omega) v L ⟨⟨lv, ix⟩, l⟩ [.int .u64 lv, .int .u64 ix, .slice A10 l.length c10] (fun k => s < k ∧ P k) (fun k => w.heap.size ≤ k) rfl rfl ?aP ?aK ?aF (Kd.S_mono (Kd.S_below (Kd.S_bound HS.out.row) HB.out) (fun k hk => ⟨hk.1, Nat.not_le.mpr hk.2.2.1⟩)) (Below.refl _ _) ?aS (by omega) ?_
    case aP => exact k88_mkM _ _ _ ⟨⟨lv, ix⟩, l⟩ (Kd.R_lower HO10.out HS.out.lt)
    case aK => exact fun k hk => ⟨⟨Nat.lt_of_lt_of_le HS.out.lt hk, HP.out k hk⟩, fun he => by have := hlv k he.symm; omega⟩
    case aF => exact fun k hk => ⟨Nat.lt_of_lt_of_le HS.out.lt (Nat.le_trans HB.out.size hk), HP.out k (Nat.le_trans HB.out.size hk)⟩
    case aS => exact Nat.lt_of_lt_of_le HS.out.lt HB.out.size
    intro v13 w13 ho hb hg hat
    obtain ⟨A13, c13, e13⟩ := Kd.S_slice ho
    rw [List.length_append, List.length_singleton] at e13
    subst e13
    have hsv : ∀ k, v.ownBlock = some k → s + 1 ≤ k := Kd.S_base HS.out.row
    have HC13 := Aside0.mk (blk_grown (HS.out.below HB.out).cell hg (by intro he; have := hsv s he.symm; omega))
    have HBK1 := Aside0.mk (blk_grown HBK.out hg (by intro he; have := hlv gb he.symm; have := GB.out; omega))
    have HR13 := Aside0.mk ho
    have HK13 := Aside0.mk (KeptB.of_grown hg (KeptB.of_below HB.out (shows s v)) (fun k hk => Or.inl (Or.inr hk.symm)))
    have HA13 := Aside0.mk (show (Value.slice A13 (L.length + 1) c13).ownBlock = v.ownBlock ∨ ∃ b, (Value.slice A13 (L.length + 1) c13).ownBlock = some b ∧ w.heap.size ≤ b by
      rcases hat with hat | ⟨b, e, hle⟩
      · exact Or.inl hat
      · exact Or.inr ⟨b, e, Nat.le_trans HB.out.size hle⟩)
    clear ho hb hg hat hsv hlv HBK HB HO10
    refine hK.out _ _ ⟨(blk_cell HC13.out 0).trans rfl, (blk_cell HBK1.out 0).trans rfl, (blk_cell HBK1.out 1).trans rfl⟩ (fun hHeld => ?_)
    clear hK K
    refine norm_ (a' := ?_) ?_ ?_
    rotate_left
    · show Act.put _ (some 13) _ = _
      simp only [Act.put, List.setIfInBounds_toArray, List.set_cons_zero, List.set_cons_succ, i64_w, i32_w]
      rfl
    have hcx := (blk_cell HC13.out 0).trans rfl
    have hfx := blk_frozen HC13.out 0
    refine last_ (i := 9) (N := none) #[true, true, true, true, true, true, true, true, true, true] rfl rfl (one_of HT_.out (by kernel_rfl)) (by decide) (fun K hK => ?_)
    refine skip_ (w1 := ?_) (by rfl) rfl ?_ ?_
    rotate_left
    · go_simp
      rfl
    refine hK.out _ _ ?_
    clear hK K
    refine done_ (done_of HT_.out (by kernel_rfl)) ?_
    go_wp2
    go_end0
    have hR2 := Kd.S_far (p := ⟨s, 0, none⟩) HR13.out (fun k hk => Nat.ne_of_gt hk.1) (.slice A13 (L.length + 1) c13)
    exact ⟨_, _, rfl, ⟨(blk_set HC13.out 0 _).trans rfl, hR2⟩, HK13.out.setCell (Or.inl (Or.inl rfl)) _, HA13.out⟩
theorem impl_RootHash_1.ok : VisOk 72 := ⟨⟨_, Tryd.func72, rfl, rfl⟩, fun lv ix A c l s P v L w h1 h2 h3 h4 h5 h6 => impl_RootHash_1.calls lv ix A c l s P v L w h1 h2 h3 h4 h5 h6⟩
end Go.Proofs.YtijldedhcjkhiaaDoor.T
