import Derived.Test.YtijldedhcjkhiaaDoorSI0
import Derived.Test.YtijldedhcjkhiaaDoorSI2
import Derived.Test.YtijldedhcjkhiaaDoorSI5
namespace Go.Proofs.YtijldedhcjkhiaaDoor.I
open Go.RowKit Go.Proofs.YtijldedhcjkhiaaDoorW.PrintWords Go.Proofs.YtijldedhcjkhiaaDoorW.PrintLast Go.Proofs.YtijldedhcjkhiaaDoorW.PrintMore
attribute [local go_sem] max2_int min2_int max_two min_two max_three min_three max_four min_four   -- for this text's walks alone
set_option linter.unusedVariables false
set_option linter.unusedSimpArgs false
theorem proof_Nodes_Rehash.row_at {W : World} {base g n cap : Nat} {ok : Nat → Prop} {xs : List (List Int)} (h : Kd.N (Kd.slice 5 (Kd.int .u8)) 42 W base ok (.slice (some ⟨g, 0, none⟩) n cap) xs) (i : Int) (h0 : 0 ≤ i) (h1 : i < n) :
  ∃ A c, W.cell? ⟨g, i.toNat, none⟩ = some (.slice A (rd_L1 xs i).length c) ∧ W.frozen? ⟨g, i.toNat, none⟩ = false ∧ (rd_L1 xs i).length ≤ c ∧ Kd.F (Kd.int .u8) W (fun k => ok k ∧ k ≠ g) A (rd_L1 xs i).length (rd_L1 xs i) := by
 obtain ⟨c', hcl, hf, hcc, hfr⟩ := Kd.N_elem h [] i h0 h1
 obtain ⟨A, c, rfl, hl, hF⟩ := Kd.FK_slice_open hf
 have h2 := hcc 0 _ rfl
 have h3 := hfr 0
 rw [show (Kd.slice 5 (Kd.int .u8)).sz = 1 from rfl, Nat.mul_one, Nat.add_zero] at h2 h3
 exact ⟨A, c, h2, h3, hl, hF⟩
theorem proof_Nodes_Rehash.row_put {W : World} {base g n cap : Nat} {ok okp : Nat → Prop} {xs : List (List Int)} (h : Kd.N (Kd.slice 5 (Kd.int .u8)) 42 W base ok (.slice (some ⟨g, 0, none⟩) n cap) xs) (i : Int) (h0 : 0 ≤ i) (h1 : i < n) {A : Option Addr} {c : Nat} {x' : List Int} (hl : x'.length ≤ c) (hf : Kd.F (Kd.int .u8) W okp A x'.length x') (hokp : ∀ k, okp k → ok k ∧ k ≠ g) :
  Kd.N (Kd.slice 5 (Kd.int .u8)) 42 (W.setCell ⟨g, i.toNat, none⟩ (.slice A x'.length c)) base ok (.slice (some ⟨g, 0, none⟩) n cap) (xs.set i.toNat x') ∧ W.grownBy (W.setCell ⟨g, i.toNat, none⟩ (.slice A x'.length c)) (some g) := by
 obtain ⟨c', hcl, _, hcc, _⟩ := Kd.N_elem h [] i h0 h1
 have hcl1 : c'.length = 1 := hcl
 have hM : Kd.FK (Kd.slice 5 (Kd.int .u8)) W okp x' (c'.take 0 ++ [.slice A x'.length c] ++ c'.drop (0 + [Value.slice A x'.length c].length)) := by
  rw [List.take_zero, List.nil_append, List.drop_eq_nil_of_le (by rw [hcl1]; exact Nat.le_refl _), List.append_nil]
  exact Kd.FK_slice_mk hl hf
 have h2 := Kd.N_seg h i h0 h1 (seg := [.slice A x'.length c]) (j := 0) hcl hcc (by show 0 + 1 ≤ 1; omega) hM hokp
 rw [show (Kd.slice 5 (Kd.int .u8)).sz = 1 from rfl, Nat.mul_one, Nat.add_zero] at h2
 exact h2
mutual
def proof_Nodes_Rehash.l0 : Nat → Int → Int → Int → Int → Int → Int → Int → Int → Int → List (List Int) → Int → Int → Option (List (List Int) × Option Int)
 | 0, _, _, _, _, _, _, _, _, _, _, _, _ => none
 | k + 1, h0, h1, h2, h3, h4, h5, b, e, ln, l, cur, i => if i < ln then (if 0 ≤ i then (if b ≤ i then (if i < e then (proof_Nodes_Rehash.l1 k h0 h1 h2 h3 h4 h5 b e ln l cur (wrap64 (i + 1)) (rd_L1 l i)) else (if 0 ≤ cur then (if cur < ln then (proof_Nodes_Rehash.l0 k h0 h1 h2 h3 h4 h5 b e ln (l.set cur.toNat (rd_L1 l i)) (wrap64 (cur + 1)) (wrap64 (i + 1))) else none) else none)) else (if 0 ≤ cur then (if cur < ln then (proof_Nodes_Rehash.l0 k h0 h1 h2 h3 h4 h5 b e ln (l.set cur.toNat (rd_L1 l i)) (wrap64 (cur + 1)) (wrap64 (i + 1))) else none) else none)) else none) else (if 0 ≤ cur then (if cur ≤ ln then (some (l.take cur.toNat, none)) else none) else none)
def proof_Nodes_Rehash.l1 : Nat → Int → Int → Int → Int → Int → Int → Int → Int → Int → List (List Int) → Int → Int → List Int → Option (List (List Int) × Option Int)
 | 0, _, _, _, _, _, _, _, _, _, _, _, _, _ => none
 | k + 1, h0, h1, h2, h3, h4, h5, b, e, ln, l, cur, i, hash => if i < e then (if 0 ≤ i then (if i < ln then ((impl_toy_HashChildren.f k h0 h1 h2 h3 h4 h5 (rd_L1 l i) hash).bind fun t => proof_Nodes_Rehash.l1 k h0 h1 h2 h3 h4 h5 b e ln l cur (wrap64 (i + 1)) t) else none) else none) else (if 0 ≤ cur then (if cur < ln then (proof_Nodes_Rehash.l0 k h0 h1 h2 h3 h4 h5 b e ln (l.set cur.toNat hash) (wrap64 (cur + 1)) (wrap64 (wrap64 (i - 1) + 1))) else none) else none)
end
def proof_Nodes_Rehash.f (k : Nat) (h0 h1 h2 h3 h4 h5 : Int) (n0 : Nat) (b e : Int) (l : List (List Int)) : Option (List (List Int) × Option Int) := if (l.length : Int) = (n0 : Int) then (proof_Nodes_Rehash.l0 k h0 h1 h2 h3 h4 h5 b e (l.length : Int) l 0 0) else some ([], some 0)
theorem proof_Nodes_Rehash.mono_l : ∀ k, (∀ y0 y1 y2 y3 y4 y5 y6 y7 y8 y9 y10 y11, LeO (proof_Nodes_Rehash.l0 k y0 y1 y2 y3 y4 y5 y6 y7 y8 y9 y10 y11) (proof_Nodes_Rehash.l0 (k + 1) y0 y1 y2 y3 y4 y5 y6 y7 y8 y9 y10 y11)) ∧ (∀ y0 y1 y2 y3 y4 y5 y6 y7 y8 y9 y10 y11 y12, LeO (proof_Nodes_Rehash.l1 k y0 y1 y2 y3 y4 y5 y6 y7 y8 y9 y10 y11 y12) (proof_Nodes_Rehash.l1 (k + 1) y0 y1 y2 y3 y4 y5 y6 y7 y8 y9 y10 y11 y12))
 | 0 => ⟨fun _ _ _ _ _ _ _ _ _ _ _ _ r h => by simp [proof_Nodes_Rehash.l0] at h, fun _ _ _ _ _ _ _ _ _ _ _ _ _ r h => by simp [proof_Nodes_Rehash.l1] at h⟩
 | k + 1 => by
  obtain ⟨ih0, ih1⟩ := proof_Nodes_Rehash.mono_l k
  refine ⟨?_, ?_⟩
  ·intro y0 y1 y2 y3 y4 y5 y6 y7 y8 y9 y10 y11
   unfold proof_Nodes_Rehash.l0
   repeat' first
    | (with_reducible exact ih0 _ _ _ _ _ _ _ _ _ _ _ _)
    | (with_reducible exact ih1 _ _ _ _ _ _ _ _ _ _ _ _ _)
    | (with_reducible exact LeO.refl _)
    | (with_reducible exact LeO.none _)
    | (with_reducible refine LeO.ite ?_ ?_)
    | (with_reducible refine LeO.bind ?_ (fun _ => ?_))
  ·intro y0 y1 y2 y3 y4 y5 y6 y7 y8 y9 y10 y11 y12
   unfold proof_Nodes_Rehash.l1
   repeat' first
    | (with_reducible exact ih0 _ _ _ _ _ _ _ _ _ _ _ _)
    | (with_reducible exact ih1 _ _ _ _ _ _ _ _ _ _ _ _ _)
    | (with_reducible exact impl_toy_HashChildren.mono _ _ _ _ _ _ _ _ _)
    | (with_reducible exact LeO.refl _)
    | (with_reducible exact LeO.none _)
    | (with_reducible refine LeO.ite ?_ ?_)
    | (with_reducible refine LeO.bind ?_ (fun _ => ?_))
theorem proof_Nodes_Rehash.mono (h0 h1 h2 h3 h4 h5 : Int) (n0 : Nat) (b e : Int) (l : List (List Int)) : ∀ k, LeO (proof_Nodes_Rehash.f k h0 h1 h2 h3 h4 h5 n0 b e l) (proof_Nodes_Rehash.f (k + 1) h0 h1 h2 h3 h4 h5 n0 b e l) := by
 intro k
 unfold proof_Nodes_Rehash.f
 exact LeO.ite ((proof_Nodes_Rehash.mono_l k).1 _ _ _ _ _ _ _ _ _ _ _ _) (LeO.refl _)
def proof_Nodes_Rehash.T1 : Bool × List (List Nat × List Nat) := (true, [([], []), ([0], [0]), ([], []), ([2], [2]), ([3], [3]), ([1, 0, 1], [1]), ([4, 5, 0, 1, 2, 3, 4, 5], [4])])
def proof_Nodes_Rehash.B1 : List Nat := [0, 1, 0, 4, 12, 3, 63]
theorem proof_Nodes_Rehash.tab1 : rtab .any (opsOf Tryd.f95 1) = proof_Nodes_Rehash.T1 := by kernel_rfl
theorem proof_Nodes_Rehash.bits1 : waitsOk proof_Nodes_Rehash.T1.2 proof_Nodes_Rehash.B1 = true := by kernel_rfl
set_option maxHeartbeats 8000000 in
set_option maxRecDepth 100000 in
theorem proof_Nodes_Rehash.calls (k : Nat) (h0 h1 h2 h3 h4 h5 : Int) (A0 : Option Addr) (n0 c0 : Nat) (b e x y : Int) (A1 : Option Addr) (c1 : Nat) (l1 : List (List Int)) (r1 : List (List Int)) (r2 : Option Int) (ok : Nat → Prop) (w0 w : World) (hB : Below w0.heap.size w0 w)
  (hN : Kd.N (Kd.slice 5 (Kd.int .u8)) 42 w w0.heap.size ok (.slice A1 l1.length c1) l1) (hfresh : ∀ k, w.heap.size ≤ k → ok k) (h : proof_Nodes_Rehash.f k h0 h1 h2 h3 h4 h5 n0 b e l1 = some (r1, r2)) :
  Calls Tryd.prog 95 #[.agg #[.slice A0 n0 c0, .int .i64 b, .int .i64 e, .int .u64 x, .int .u64 y], .slice A1 l1.length c1, .func (.func 68) #[.agg #[.int .i64 h0, .int .i64 h1, .int .i64 h2, .int .u64 h3, .int .u64 h4, .int .u64 h5]] #[]] w fun e' w' => ∃ (v v1 v2 : Value) (q : Nat), e' = .returned (.tuple #[v, errP ((q, r2), v1, v2)]) ∧ Kd.V (Kd.slice 5 (Kd.int .u8)) 42 w' w0.heap.size ok v r1 ∧ Below w0.heap.size w0 w' ∧ Kept w w' (fun k => some k = (.slice A1 l1.length c1 : Value).ownBlock) := by
 have hu146 := Tryd.underlying146
 have HF := Aside0.mk hfresh
 have HN := Aside0.mk hN
 have HB := Aside0.mk hB
 clear hfresh hN hB
 unfold proof_Nodes_Rehash.f at h
 have H := h
 clear h
 by_cases c1_ : (l1.length : Int) = (n0 : Int)
 ·rw [if_pos c1_] at H
  have d0 : ((l1.length : Int) == (n0 : Int)) = true := beq_iff_eq.mpr c1_
  have d1 : ((l1.length : Int) != (n0 : Int)) = false := bne_eq_false_iff_eq.mpr c1_
  have d2 : (l1.length == n0) = true := by first | simpa using c1_ | (simp at c1_ ⊢; omega)
  clear c1_
  have H' := Aside0.mk H
  clear H
  go_enter Tryd.func95, Tryd.ntmps95
  go_wp2_with (first | ((with_reducible refine gate_dst (N := 3) rfl ?_); refine box_event ?hg (N := 3) ?hd (cs := #[.slice A0 n0 c0, .int .i64 b, .int .i64 e, .int .u64 x, .int .u64 y]) (t := 146) ?hr ?_; (case hd => rfl); (case hg => rfl); (case hr => first | (go_simp; done) | (go_simp; rfl)); intro gb hg w4 hbox hb; (have BK := Aside0.mk hbox); (have HB1 := Aside0.mk hb); (have GB := Aside0.mk hg); (have HB2 := Aside0.mk (below_drew1 (below_step HB.out hb))); clear hbox hb hg HB; have HB := HB2; clear HB2))
  have KP := Aside0.mk (Kept.of_below HB1.out (fun k => some k = (.slice A1 l1.length c1 : Value).ownBlock)).drew
  have HN1 := Aside0.mk (Kd.N_drew (Kd.N_below HN.out HB1.out))
  have BK1 := Aside0.mk (blk_drew BK.out)
  have hlt := Kd.N_lt HN.out
  have hne0 : Aside0 (∀ k, (.slice A1 l1.length c1 : Value).ownBlock = some k → k < gb) := ⟨fun k hk => by have := hlt k hk; have := GB.out; omega⟩
  clear HN BK HB1 hlt
  have HN := HN1
  have BK := BK1
  clear HN1 BK1
  refine start_ (n := 7) (S := fun w' => w'.cell? ⟨gb, 0, none⟩ = some (.slice A0 n0 c0)) (ds := []) #[false, false, false, false, false, false, false] (by kernel_rfl) rfl rfl ((blk_cell BK.out 0).trans rfl) (fun hHeld => ?_)
  refine with_tabW proof_Nodes_Rehash.tab1 proof_Nodes_Rehash.bits1 (fun HT_ HW_ => ?_)
  generalize w4.drew = w5 at BK KP HN HB hHeld ⊢
  refine pure_ (i := 0) (N := (some 14)) (v := ?_) (a' := ?_) #[true, false, false, false, false, false, false] rfl rfl (any_of HT_.out (by kernel_rfl)) (fun _ _ _ h => h) (Or.inl ⟨by rfl, ?_⟩) ?_ ?_
  rotate_left
  ·intro w'
   go_simp
   with_reducible rfl
  rotate_left
  ·simp only [Act.put, List.setIfInBounds_toArray, List.set_cons_zero, List.set_cons_succ, i64_w, i32_w]
   rfl
  refine pure_ (i := 1) (N := (some 15)) (v := ?_) (a' := ?_) #[true, true, false, false, false, false, false] rfl rfl (any_of HT_.out (by kernel_rfl)) (fun _ _ _ h => h) (Or.inl ⟨by rfl, ?_⟩) ?_ ?_
  rotate_left
  ·intro w'
   go_simp
   with_reducible rfl
  rotate_left
  ·simp only [Act.put, List.setIfInBounds_toArray, List.set_cons_zero, List.set_cons_succ, i64_w, i32_w]
   rfl
  refine pure_ (i := 2) (N := (some 16)) (v := ?_) (a' := ?_) #[true, true, true, false, false, false, false] rfl rfl (any_of HT_.out (by kernel_rfl)) (fun _ _ _ h => h) (Or.inl ⟨by rfl, ?_⟩) ?_ ?_
  rotate_left
  ·intro w'
   go_simp
   with_reducible rfl
  rotate_left
  ·simp only [Act.put, List.setIfInBounds_toArray, List.set_cons_zero, List.set_cons_succ, i64_w, i32_w]
   rfl
  refine take_ (i := 3) (N := (some 17)) (v := ?_) (a' := ?_) #[true, true, true, true, false, false, false] rfl rfl (take_ofW HT_.out HW_.out (by kernel_rfl)) (fun _ _ _ h => h) (Or.inl ⟨by rfl, ?_⟩) hHeld ?_ ?_
  rotate_left
  ·intro w' s0
   go_simp
   with_reducible rfl
  rotate_left
  ·simp only [Act.put, List.setIfInBounds_toArray, List.set_cons_zero, List.set_cons_succ, i64_w, i32_w]
   rfl
  refine pure_ (i := 4) (N := (some 18)) (v := ?_) (a' := ?_) #[true, true, true, true, true, false, false] rfl rfl (any_of HT_.out (by kernel_rfl)) (fun _ _ _ h => h) (Or.inl ⟨by rfl, ?_⟩) ?_ ?_
  rotate_left
  ·intro w'
   go_simp
   with_reducible rfl
  rotate_left
  ·simp only [Act.put, List.setIfInBounds_toArray, List.set_cons_zero, List.set_cons_succ, i64_w, i32_w]
   rfl
  refine pure_ (i := 5) (N := (some 8)) (v := ?_) (a' := ?_) #[true, true, true, true, true, true, false] rfl rfl (any_of HT_.out (by kernel_rfl)) (fun _ _ _ h => h) (Or.inl ⟨by rfl, ?_⟩) ?_ ?_
  rotate_left
  ·intro w'
   go_simp
   with_reducible rfl
  rotate_left
  ·simp only [Act.put, List.setIfInBounds_toArray, List.set_cons_zero, List.set_cons_succ, i64_w, i32_w]
   rfl
  refine pure_ (i := 6) (N := (some 9)) (v := ?_) (a' := ?_) #[true, true, true, true, true, true, true] rfl rfl (any_of HT_.out (by kernel_rfl)) (fun _ _ _ h => h) (Or.inl ⟨by rfl, ?_⟩) ?_ ?_
  rotate_left
  ·intro w'
   go_simp
   with_reducible rfl
  rotate_left
  ·simp only [Act.put, List.setIfInBounds_toArray, List.set_cons_zero, List.set_cons_succ, i64_w, i32_w]
   rfl
  refine done_ (done_of HT_.out (by kernel_rfl)) ?_
  go_wp2
  try simp only [Act.put, List.setIfInBounds_toArray, List.set_cons_zero, List.set_cons_succ]
  go_loopg [10, 11] k (fun kq v10 v11 w' => ∃ (l : List (List Int)) (cur i : Int), v10 = .int .i64 cur ∧ v11 = .int .i64 i ∧ Aside0 (proof_Nodes_Rehash.l0 kq h0 h1 h2 h3 h4 h5 b e (l1.length : Int) l cur i = some (r1, r2)) ∧ Aside0 (kq ≤ k) ∧ Aside0 (Kd.N (Kd.slice 5 (Kd.int .u8)) 42 w' w0.heap.size ok (.slice A1 l1.length c1) l) ∧ Aside0 (l.length = l1.length) ∧ Aside0 (w'.heap[gb]? = some (.cells #[.slice A0 n0 c0, .int .i64 b, .int .i64 e, .int .u64 x, .int .u64 y] 146 (0, 0))) ∧ Aside0 (Below w0.heap.size w0 w') ∧ Aside0 (Kept w w' (fun k => some k = (.slice A1 l1.length c1 : Value).ownBlock)))
  case atStart => exact ⟨l1, 0, 0, rfl, rfl, H', ⟨Nat.le_refl _⟩, HN, ⟨rfl⟩, BK, HB, KP⟩
  case round =>
   clear H' HN BK KP HB
   obtain ⟨l, cur, i, rfl, rfl, HA, HK1, HN, HLEN, BK, HB, KP⟩ := hrel
   cases gk with
   | zero => exact absurd HA.out (by simp [proof_Nodes_Rehash.l0])
   | succ k1 =>
    have H := HA.out
    clear HA
    simp only [proof_Nodes_Rehash.l0] at H
    by_cases c2 : i < (l1.length : Int)
    ·rw [if_pos c2] at H
     by_cases c3 : 0 ≤ i
     ·rw [if_pos c3] at H
      obtain ⟨g, cap, eA, hgb, hgl, _⟩ := Kd.N_form HN.out (by have := HLEN.out; omega)
      injection eA with eA1 eA2 eA3
      subst eA1
      clear eA2 eA3 hgb
      have hne : Aside0 (gb ≠ g) := ⟨by have := hne0.out g rfl; omega⟩
      obtain ⟨A2, c2_, hc13, _, hl13, hf13⟩ := proof_Nodes_Rehash.row_at HN.out i c3 c2
      have HLH := Aside0.mk hl13
      have HFH := Aside0.mk hf13
      have hx1 := (blk_cell BK.out 1).trans rfl
      have hx2 := (blk_cell BK.out 2).trans rfl
      clear hl13 hf13
      have c2b := decide_eq_true c2
      have c3b := eq_true c3
      have c2c := eq_true c2
      clear c2 c3
      by_cases c4 : b ≤ i
      ·rw [if_pos c4] at H
       have c4b := decide_eq_true c4
       clear c4
       by_cases c5 : i < e
       ·rw [if_pos c5] at H
        have c5b := decide_eq_true c5
        clear c5
        have HH := Aside0.mk H
        clear H
        go_wp2
        try simp only [Act.put, List.setIfInBounds_toArray, List.set_cons_zero, List.set_cons_succ]
        go_loopg [11, 13] k1 (fun kq v11 v13 w' => ∃ (i2 : Int) (hash : List Int) (A3 : Option Addr) (c3 : Nat), v11 = .int .i64 i2 ∧ v13 = .slice A3 hash.length c3 ∧ Aside0 (proof_Nodes_Rehash.l1 kq h0 h1 h2 h3 h4 h5 b e (l1.length : Int) l cur i2 hash = some (r1, r2)) ∧ Aside0 (kq ≤ k1) ∧ Aside0 (hash.length ≤ c3) ∧ Aside0 (Kd.F (Kd.int .u8) w' (fun k => ok k ∧ k ≠ g) A3 hash.length hash) ∧ Aside0 (Kd.N (Kd.slice 5 (Kd.int .u8)) 42 w' w0.heap.size ok (.slice (some ⟨g, 0, none⟩) l1.length c1) l) ∧ Aside0 (w'.heap[gb]? = some (.cells #[.slice A0 n0 c0, .int .i64 b, .int .i64 e, .int .u64 x, .int .u64 y] 146 (0, 0))) ∧ Aside0 (Below w0.heap.size w0 w') ∧ Aside0 (Kept w w' (fun k => some k = (.slice (some ⟨g, 0, none⟩) l1.length c1 : Value).ownBlock)))
        case atStart => exact ⟨_, _, _, _, rfl, rfl, HH, ⟨Nat.le_refl _⟩, HLH, HFH, HN, BK, HB, KP⟩
        case round =>
         clear HH HN BK KP HB HLH HFH hx1 hx2 hc13 c4b c5b c2b c3b c2c
         obtain ⟨i2, hash, A3, c3, rfl, rfl, HA, HK2, HLH, HFH, HN, BK, HB, KP⟩ := hrel
         have hx1 := (blk_cell BK.out 1).trans rfl
         have hx2 := (blk_cell BK.out 2).trans rfl
         cases gk with
         | zero => exact absurd HA.out (by simp [proof_Nodes_Rehash.l1])
         | succ k2 =>
          have H := HA.out
          clear HA
          simp only [proof_Nodes_Rehash.l1] at H
          by_cases c5 : i2 < e
          ·rw [if_pos c5] at H
           by_cases c3_ : 0 ≤ i2
           ·rw [if_pos c3_] at H
            by_cases c2_ : i2 < (l1.length : Int)
            ·rw [if_pos c2_] at H
             replace H := Option.bind_eq_some_iff.mp H
             obtain ⟨t, hA1, H⟩ := H
             have A6 := Aside0.mk hA1
             have HH := Aside0.mk H
             clear hA1 H
             obtain ⟨A4, c4_, hc58, _, hl58, hf58⟩ := proof_Nodes_Rehash.row_at HN.out i2 c3_ c2_
             have HL4 := Aside0.mk hl58
             have HF4 := Aside0.mk hf58
             clear hl58 hf58
             have c5b := decide_eq_true c5
             have c3b := eq_true c3_
             have c2c := eq_true c2_
             clear c5 c3_ c2_
             go_wp2_with (first | ((with_reducible refine gate_funcval rfl ?_); refine goesLF_ (some 60) rfl rfl Tryd.func68 (by kernel_rfl) rfl (v := .agg #[.int .i64 h0, .int .i64 h1, .int .i64 h2, .int .u64 h3, .int .u64 h4, .int .u64 h5]) #[.slice A4 (rd_L1 l i2).length c4_, .slice A3 hash.length c3] #[.agg #[.int .i64 h0, .int .i64 h1, .int .i64 h2, .int .u64 h3, .int .u64 h4, .int .u64 h5], .slice A4 (rd_L1 l i2).length c4_, .slice A3 hash.length c3] rfl rfl (by (try simp only [List.map_toArray, List.map_cons, List.map_nil]); first | done | rfl) rfl ?_; (with_reducible refine (impl_toy_HashChildren.calls k2 h0 h1 h2 h3 h4 h5 A4 c4_ (rd_L1 l i2) A3 c3 hash t _ ?side1 HL4.out ?side2 HLH.out A6.out).mono ?_); (case side1 => exact Kd.F_now HF4.out); (case side2 => exact Kd.F_now HFH.out); rintro e w6 ⟨v6, rfl, ho, hb⟩; refine ⟨_, rfl, ?_⟩; (obtain ⟨A7, c7, rfl⟩ := Kd.R_slice ho); (have HLH1 := Aside0.mk (Kd.R_reads' ho).2.1); (have HFH1 := Aside0.mk (Kd.F_mono (ok' := fun k => ok k ∧ k ≠ g) (Kd.R_F (Kd.R_bound ho)) (fun k hk => ⟨HF.out k (Nat.le_trans KP.out.1 hk.2.1), fun he => Nat.lt_irrefl _ (Nat.lt_of_lt_of_le (Kd.N_lt HN.out g rfl) (he ▸ hk.2.1))⟩))); (have HN1 := Aside0.mk (Kd.N_below HN.out hb)); (have BK1 := Aside0.mk (blk_below BK.out hb)); (have KP1 := Aside0.mk (KP.out.below hb)); (have HB1 := Aside0.mk (below_step HB.out hb)); clear ho hb HN BK KP HB HLH HFH hx1 hx2 hc58 HL4 HF4))
             go_roundg k2
             case measure => have := HK2.out; omega
             case rel => exact ⟨_, _, _, _, rfl, rfl, HH, ⟨by have := HK2.out; omega⟩, HLH1, HFH1, HN1, BK1, HB1, KP1⟩
            ·rw [if_neg c2_] at H
             exact absurd H (by simp)
           ·rw [if_neg c3_] at H
            exact absurd H (by simp)
          ·rw [if_neg c5] at H
           have c5b := decide_eq_false c5
           clear c5
           by_cases c7 : 0 ≤ cur
           ·rw [if_pos c7] at H
            by_cases c8 : cur < (l1.length : Int)
            ·rw [if_pos c8] at H
             obtain ⟨HP1, HP2⟩ := proof_Nodes_Rehash.row_put HN.out cur c7 c8 HLH.out HFH.out (fun _ hk => hk)
             obtain ⟨Aq_, cq_, hcq_, hfq_, _, _⟩ := proof_Nodes_Rehash.row_at HN.out cur c7 c8
             have HP1 := Aside0.mk HP1
             have HP2 := Aside0.mk HP2
             have HH := Aside0.mk H
             clear H HFH HLH
             have c7b := eq_true c7
             have c8b := eq_true c8
             clear c7 c8
             have BK1 := Aside0.mk (blk_far BK.out hne.out (p := ⟨g, cur.toNat, none⟩) (.slice A3 hash.length c3))
             have KP1 := Aside0.mk (Kept.of_grown HP2.out KP.out (fun k hk => Or.inl (by rw [← hk]; rfl)))
             have HB1 := Aside0.mk (HB.out.setCell (p := ⟨g, cur.toNat, none⟩) (Kd.N_base HN.out g rfl) (.slice A3 hash.length c3))
             clear HN BK KP HB
             go_wp2
             go_roundg k2
             case measure => have := HK2.out; have := HK1.out; omega
             case rel => exact ⟨_, _, _, rfl, rfl, HH, ⟨by have := HK2.out; have := HK1.out; omega⟩, HP1, ⟨by rw [List.length_set]; exact HLEN.out⟩, BK1, HB1, KP1⟩
            ·rw [if_neg c8] at H
             exact absurd H (by simp)
           ·rw [if_neg c7] at H
            exact absurd H (by simp)
       ·rw [if_neg c5] at H
        have c5b := decide_eq_false c5
        clear c5
        by_cases c7 : 0 ≤ cur
        ·rw [if_pos c7] at H
         by_cases c8 : cur < (l1.length : Int)
         ·rw [if_pos c8] at H
          obtain ⟨HP1, HP2⟩ := proof_Nodes_Rehash.row_put HN.out cur c7 c8 HLH.out HFH.out (fun _ hk => hk)
          obtain ⟨Aq_, cq_, hcq_, hfq_, _, _⟩ := proof_Nodes_Rehash.row_at HN.out cur c7 c8
          have HP1 := Aside0.mk HP1
          have HP2 := Aside0.mk HP2
          have HH := Aside0.mk H
          clear H HFH HLH
          have c7b := eq_true c7
          have c8b := eq_true c8
          clear c7 c8
          have BK1 := Aside0.mk (blk_far BK.out hne.out (p := ⟨g, cur.toNat, none⟩) (.slice A2 (rd_L1 l i).length c2_))
          have KP1 := Aside0.mk (Kept.of_grown HP2.out KP.out (fun k hk => Or.inl (by rw [← hk]; rfl)))
          have HB1 := Aside0.mk (HB.out.setCell (p := ⟨g, cur.toNat, none⟩) (Kd.N_base HN.out g rfl) (.slice A2 (rd_L1 l i).length c2_))
          clear HN BK KP HB
          go_wp2
          go_roundg k1
          case measure => have := HK1.out; have := HK1.out; omega
          case rel => exact ⟨_, _, _, rfl, rfl, HH, ⟨by have := HK1.out; have := HK1.out; omega⟩, HP1, ⟨by rw [List.length_set]; exact HLEN.out⟩, BK1, HB1, KP1⟩
         ·rw [if_neg c8] at H
          exact absurd H (by simp)
        ·rw [if_neg c7] at H
         exact absurd H (by simp)
      ·rw [if_neg c4] at H
       have c4b := decide_eq_false c4
       clear c4
       by_cases c7 : 0 ≤ cur
       ·rw [if_pos c7] at H
        by_cases c8 : cur < (l1.length : Int)
        ·rw [if_pos c8] at H
         obtain ⟨HP1, HP2⟩ := proof_Nodes_Rehash.row_put HN.out cur c7 c8 HLH.out HFH.out (fun _ hk => hk)
         obtain ⟨Aq_, cq_, hcq_, hfq_, _, _⟩ := proof_Nodes_Rehash.row_at HN.out cur c7 c8
         have HP1 := Aside0.mk HP1
         have HP2 := Aside0.mk HP2
         have HH := Aside0.mk H
         clear H HFH HLH
         have c7b := eq_true c7
         have c8b := eq_true c8
         clear c7 c8
         have BK1 := Aside0.mk (blk_far BK.out hne.out (p := ⟨g, cur.toNat, none⟩) (.slice A2 (rd_L1 l i).length c2_))
         have KP1 := Aside0.mk (Kept.of_grown HP2.out KP.out (fun k hk => Or.inl (by rw [← hk]; rfl)))
         have HB1 := Aside0.mk (HB.out.setCell (p := ⟨g, cur.toNat, none⟩) (Kd.N_base HN.out g rfl) (.slice A2 (rd_L1 l i).length c2_))
         clear HN BK KP HB
         go_wp2
         go_roundg k1
         case measure => have := HK1.out; have := HK1.out; omega
         case rel => exact ⟨_, _, _, rfl, rfl, HH, ⟨by have := HK1.out; have := HK1.out; omega⟩, HP1, ⟨by rw [List.length_set]; exact HLEN.out⟩, BK1, HB1, KP1⟩
        ·rw [if_neg c8] at H
         exact absurd H (by simp)
       ·rw [if_neg c7] at H
        exact absurd H (by simp)
     ·rw [if_neg c3] at H
      exact absurd H (by simp)
    ·rw [if_neg c2] at H
     by_cases c3 : 0 ≤ cur
     ·rw [if_pos c3] at H
      by_cases c4 : cur ≤ (l1.length : Int)
      ·rw [if_pos c4] at H
       simp only [Option.some.injEq, Prod.mk.injEq] at H
       obtain ⟨rfl, rfl⟩ := H
       have c2b := decide_eq_false c2
       clear c2
       obtain ⟨i0_, hi0_, _, hsz_, _⟩ := info_parts info42
       have hcut := cut_to (P := Tryd.prog) 38 42 .i64 Tryd.underlying38 hi0_ A1 l1.length c1 cur c3 c4 (Kd.N_reads' HN.out).2.1
       have hle : cur.toNat ≤ l.length := by have := HLEN.out; omega
       have HV := Aside0.mk (Kd.N_V (base' := w0.heap.size) (Kd.N_take HN.out hle))
       have hlen : (l.take cur.toNat).length = cur.toNat := by rw [List.length_take]; omega
       have HLN := Aside0.mk hlen
       have c3b := eq_true c3
       have c4b := eq_true c4
       clear hlen hle c3 c4 hi0_ hsz_
       go_wp2
       go_ret2
       exact ⟨_, .nilIface, .nilIface, 0, rfl, HV.out, HB.out, KP.out⟩
      ·rw [if_neg c4] at H
       exact absurd H (by simp)
     ·rw [if_neg c3] at H
      exact absurd H (by simp)
 ·rw [if_neg c1_] at H
  simp only [Option.some.injEq, Prod.mk.injEq] at H
  obtain ⟨rfl, rfl⟩ := H
  have d0 : ((l1.length : Int) == (n0 : Int)) = false := beq_eq_false_iff_ne.mpr c1_
  have d1 : ((l1.length : Int) != (n0 : Int)) = true := bne_iff_ne.mpr c1_
  have d2 : (l1.length == n0) = false := by rw [beq_eq_false_iff_ne]; omega
  clear c1_
  go_enter Tryd.func95, Tryd.ntmps95
  go_wp2_with (first | ((with_reducible refine gate_dst (N := 3) rfl ?_); refine box_event ?hg (N := 3) ?hd (cs := #[.slice A0 n0 c0, .int .i64 b, .int .i64 e, .int .u64 x, .int .u64 y]) (t := 146) ?hr ?_; (case hd => rfl); (case hg => rfl); (case hr => first | (go_simp; done) | (go_simp; rfl)); intro gb hg w4 hbox hb; (have BK := Aside0.mk hbox); (have HB1 := Aside0.mk hb); (have GB := Aside0.mk hg); (have HB2 := Aside0.mk (below_drew1 (below_step HB.out hb))); clear hbox hb hg HB; have HB := HB2; clear HB2))
  have KP := Aside0.mk (Kept.of_below HB1.out (fun k => some k = (.slice A1 l1.length c1 : Value).ownBlock)).drew
  have BK1 := Aside0.mk (blk_drew BK.out)
  clear HN BK HB1
  have BK := BK1
  clear BK1
  refine start_ (n := 7) (S := fun w' => w'.cell? ⟨gb, 0, none⟩ = some (.slice A0 n0 c0)) (ds := []) #[false, false, false, false, false, false, false] (by kernel_rfl) rfl rfl ((blk_cell BK.out 0).trans rfl) (fun hHeld => ?_)
  refine with_tabW proof_Nodes_Rehash.tab1 proof_Nodes_Rehash.bits1 (fun HT_ HW_ => ?_)
  generalize w4.drew = w5 at BK KP HB hHeld ⊢
  refine pure_ (i := 0) (N := (some 14)) (v := ?_) (a' := ?_) #[true, false, false, false, false, false, false] rfl rfl (any_of HT_.out (by kernel_rfl)) (fun _ _ _ h => h) (Or.inl ⟨by rfl, ?_⟩) ?_ ?_
  rotate_left
  ·intro w'
   go_simp
   with_reducible rfl
  rotate_left
  ·simp only [Act.put, List.setIfInBounds_toArray, List.set_cons_zero, List.set_cons_succ, i64_w, i32_w]
   rfl
  refine pure_ (i := 1) (N := (some 15)) (v := ?_) (a' := ?_) #[true, true, false, false, false, false, false] rfl rfl (any_of HT_.out (by kernel_rfl)) (fun _ _ _ h => h) (Or.inl ⟨by rfl, ?_⟩) ?_ ?_
  rotate_left
  ·intro w'
   go_simp
   with_reducible rfl
  rotate_left
  ·simp only [Act.put, List.setIfInBounds_toArray, List.set_cons_zero, List.set_cons_succ, i64_w, i32_w]
   rfl
  refine pure_ (i := 2) (N := (some 16)) (v := ?_) (a' := ?_) #[true, true, true, false, false, false, false] rfl rfl (any_of HT_.out (by kernel_rfl)) (fun _ _ _ h => h) (Or.inl ⟨by rfl, ?_⟩) ?_ ?_
  rotate_left
  ·intro w'
   go_simp
   with_reducible rfl
  rotate_left
  ·simp only [Act.put, List.setIfInBounds_toArray, List.set_cons_zero, List.set_cons_succ, i64_w, i32_w]
   rfl
  refine take_ (i := 3) (N := (some 17)) (v := ?_) (a' := ?_) #[true, true, true, true, false, false, false] rfl rfl (take_ofW HT_.out HW_.out (by kernel_rfl)) (fun _ _ _ h => h) (Or.inl ⟨by rfl, ?_⟩) hHeld ?_ ?_
  rotate_left
  ·intro w' s0
   go_simp
   with_reducible rfl
  rotate_left
  ·simp only [Act.put, List.setIfInBounds_toArray, List.set_cons_zero, List.set_cons_succ, i64_w, i32_w]
   rfl
  refine pure_ (i := 4) (N := (some 18)) (v := ?_) (a' := ?_) #[true, true, true, true, true, false, false] rfl rfl (any_of HT_.out (by kernel_rfl)) (fun _ _ _ h => h) (Or.inl ⟨by rfl, ?_⟩) ?_ ?_
  rotate_left
  ·intro w'
   go_simp
   with_reducible rfl
  rotate_left
  ·simp only [Act.put, List.setIfInBounds_toArray, List.set_cons_zero, List.set_cons_succ, i64_w, i32_w]
   rfl
  refine pure_ (i := 5) (N := (some 8)) (v := ?_) (a' := ?_) #[true, true, true, true, true, true, false] rfl rfl (any_of HT_.out (by kernel_rfl)) (fun _ _ _ h => h) (Or.inl ⟨by rfl, ?_⟩) ?_ ?_
  rotate_left
  ·intro w'
   go_simp
   with_reducible rfl
  rotate_left
  ·simp only [Act.put, List.setIfInBounds_toArray, List.set_cons_zero, List.set_cons_succ, i64_w, i32_w]
   rfl
  refine pure_ (i := 6) (N := (some 9)) (v := ?_) (a' := ?_) #[true, true, true, true, true, true, true] rfl rfl (any_of HT_.out (by kernel_rfl)) (fun _ _ _ h => h) (Or.inl ⟨by rfl, ?_⟩) ?_ ?_
  rotate_left
  ·intro w'
   go_simp
   with_reducible rfl
  rotate_left
  ·simp only [Act.put, List.setIfInBounds_toArray, List.set_cons_zero, List.set_cons_succ, i64_w, i32_w]
   rfl
  refine done_ (done_of HT_.out (by kernel_rfl)) ?_
  go_wp2_with (first | ((with_reducible refine gate_callee (f := 114) rfl ?_); refine goesL_ (some 22) rfl rfl Tryd.func114 (by kernel_rfl) rfl #[.string _] rfl (by (try simp only [List.map_toArray, List.map_cons, List.map_nil]); first | done | rfl) ?_; (with_reducible refine (errors_New.calls _ (some 0) [] [] _ rfl).mono ?_); rintro e w6 ⟨v1, v2, q0, rfl, ho1, ho2, hb⟩; refine ⟨_, rfl, ?_⟩; (have KP1 := Aside0.mk (KP.out.below hb)); (have HB1 := Aside0.mk (below_step HB.out hb)); clear ho1 ho2 hb KP BK HB))
  go_ret2
  exact ⟨_, v1, v2, q0, rfl, Kd.V_nil _ _ _ _ _, HB1.out, KP1.out⟩
theorem impl_InclusionHashes.put5 {w : World} {g t : Nat} {z0 z1 z2 z3 z4 : Value} (h : w.heap[g]? = some (.cells #[z0, z1, z2, z3, z4] t (0, 0))) (a b c d e : Value) : (((((w.setCell ⟨g, 0, none⟩ a).setCell ⟨g, 1, none⟩ b).setCell ⟨g, 2, none⟩ c).setCell ⟨g, 3, none⟩ d).setCell ⟨g, 4, none⟩ e).heap[g]? = some (.cells #[a, b, c, d, e] t (0, 0)) :=
 (blk_set (blk_set (blk_set (blk_set (blk_set h 0 a) 1 b) 2 c) 3 d) 4 e).trans rfl
theorem impl_InclusionHashes.far5 {w : World} {g g' : Nat} {t : TypeId} {cs : Array Value} (h : w.heap[g']? = some (.cells cs t (0, 0))) (hne : g' ≠ g) (a b c d e : Value) : (((((w.setCell ⟨g, 0, none⟩ a).setCell ⟨g, 1, none⟩ b).setCell ⟨g, 2, none⟩ c).setCell ⟨g, 3, none⟩ d).setCell ⟨g, 4, none⟩ e).heap[g']? = some (.cells cs t (0, 0)) :=
 blk_far (blk_far (blk_far (blk_far (blk_far h hne a) hne b) hne c) hne d) hne e
theorem impl_InclusionHashes.below5 {w0 w : World} {g : Nat} (h : Below w0.heap.size w0 w) (hg : w0.heap.size ≤ g) (a b c d e : Value) : Below w0.heap.size w0 (((((w.setCell ⟨g, 0, none⟩ a).setCell ⟨g, 1, none⟩ b).setCell ⟨g, 2, none⟩ c).setCell ⟨g, 3, none⟩ d).setCell ⟨g, 4, none⟩ e) :=
 ((((h.setCell hg a).setCell hg b).setCell hg c).setCell hg d).setCell hg e
def impl_InclusionHashes.f (k : Nat) (h0 h1 h2 h3 h4 h5 a1 a2 : Int) (l : List (List Int)) : Option (List (List Int) × Bool) :=
 (proof_Inclusion.f k a1 a2).bind fun p => if p.2.2.2.2.2.1.isNone = true then ((impl_texts.f k l).bind fun t => ((proof_Nodes_Rehash.f k h0 h1 h2 h3 h4 h5 p.1.length p.2.1 p.2.2.1 t).bind fun o => ((impl_texts.f k o.1).bind fun z => some (z, o.2.isNone)))) else some ([], false)
theorem impl_InclusionHashes.mono (h0 h1 h2 h3 h4 h5 a1 a2 : Int) (l : List (List Int)) : ∀ k, LeO (impl_InclusionHashes.f k h0 h1 h2 h3 h4 h5 a1 a2 l) (impl_InclusionHashes.f (k + 1) h0 h1 h2 h3 h4 h5 a1 a2 l) := by
 intro k
 unfold impl_InclusionHashes.f
 refine LeO.bind (proof_Inclusion.mono _ _ _) (fun p => ?_)
 refine LeO.ite ?_ (LeO.refl _)
 refine LeO.bind (impl_texts.mono _ _) (fun t => ?_)
 refine LeO.bind (proof_Nodes_Rehash.mono _ _ _ _ _ _ _ _ _ _ _) (fun o => ?_)
 exact LeO.bind (impl_texts.mono _ _) (fun z => LeO.refl _)
def impl_InclusionHashes.T4 : Bool × List (List Nat × List Nat) := (true, [([], []), ([], []), ([1], [1]), ([], []), ([3], [3]), ([4], [4]), ([0, 2, 5, 2], [0, 2, 5]), ([6], [6]), ([7], [7]), ([7], [7]), ([8, 6, 0, 1, 2, 3, 4, 5, 6, 7, 8], [8]), ([9, 10, 0, 1, 2, 3, 4, 5, 6, 7, 8, 9, 10], [9])])
def impl_InclusionHashes.B4 : List Nat := [0, 0, 2, 0, 8, 24, 63, 127, 255, 255, 511, 2047]
theorem impl_InclusionHashes.tab4 : rtab .any (opsOf Tryd.f42 4) = impl_InclusionHashes.T4 := by kernel_rfl
theorem impl_InclusionHashes.bits4 : waitsOk impl_InclusionHashes.T4.2 impl_InclusionHashes.B4 = true := by kernel_rfl
def impl_InclusionHashes.T5 : Bool × List (List Nat × List Nat) := (true, [([], []), ([0], [0]), ([], []), ([2], [2]), ([1, 1, 0, 1], [1]), ([3, 4, 0, 1, 2, 3, 4], [3])])
def impl_InclusionHashes.B5 : List Nat := [0, 1, 0, 4, 3, 31]
theorem impl_InclusionHashes.tab5 : rtab .any (opsOf Tryd.f42 5) = impl_InclusionHashes.T5 := by kernel_rfl
theorem impl_InclusionHashes.bits5 : waitsOk impl_InclusionHashes.T5.2 impl_InclusionHashes.B5 = true := by kernel_rfl
set_option maxHeartbeats 8000000 in
set_option maxRecDepth 100000 in
theorem impl_InclusionHashes.calls (k : Nat) (a0_0 : Int) (a0_1 : Int) (a0_2 : Int) (a0_3 : Int) (a0_4 : Int) (a0_5 : Int) (a1 : Int) (a2 : Int) (A3 : Option Addr) (c3 : Nat) (l3 : List (List Int)) (r1 : List (List Int)) (r2 : Bool) (w : World) (hGT : GlobT w) (hr3 : Kd.C (Kd.slice 5 (Kd.int .u8)) w A3 l3.length l3) (hc3 : l3.length ≤ c3) (h : impl_InclusionHashes.f k a0_0 a0_1 a0_2 a0_3 a0_4 a0_5 a1 a2 l3 = some (r1, r2)) :
  Calls Tryd.prog 42 #[.agg #[.int .i64 a0_0, .int .i64 a0_1, .int .i64 a0_2, .int .u64 a0_3, .int .u64 a0_4, .int .u64 a0_5], .int .u64 a1, .int .u64 a2, .slice A3 l3.length c3] w fun e w' => ∃ v0_ : Value, e = .returned (.tuple #[v0_, .bool r2]) ∧ Kd.S (Kd.slice 5 (Kd.int .u8)) 42 w' w.heap.size (fun _ => True) v0_ r1 ∧ Below w.heap.size w w' := by
 have hu37 := Tryd.underlying37
 have hu146 := Tryd.underlying146
 have hu120 := Tryd.underlying120
 have hu114 := Tryd.underlying114
 have HR3 := Aside0.mk hr3
 have HC3 := Aside0.mk hc3
 have HB := Aside0.mk (Below.refl w.heap.size w)
 clear hr3 hc3
 unfold impl_InclusionHashes.f at h
 replace h := Option.bind_eq_some_iff.mp h
 obtain ⟨⟨ids, b, e, x, y, err, q1, q2⟩, hA1, H⟩ := h
 have A1 := Aside0.mk hA1
 clear hA1
 rcases err with _ | ec
 ·simp only [Option.isNone_none, if_true] at H
  replace H := Option.bind_eq_some_iff.mp H
  obtain ⟨t, hA2, H⟩ := H
  replace H := Option.bind_eq_some_iff.mp H
  obtain ⟨⟨o, er⟩, hA3, H⟩ := H
  replace H := Option.bind_eq_some_iff.mp H
  obtain ⟨z, hA4, H⟩ := H
  simp only [Option.some.injEq, Prod.mk.injEq] at H
  obtain ⟨rfl, rfl⟩ := H
  have A2 := Aside0.mk hA2
  have A3_ := Aside0.mk hA3
  have A4 := Aside0.mk hA4
  clear hA2 hA3 hA4
  go_enter Tryd.func42, Tryd.ntmps42
  go_wp2_with (first | ((with_reducible refine gate_dst (N := 4) rfl ?_); refine box_event ?hg (N := 4) ?hd (cs := #[.int .i64 a0_0, .int .i64 a0_1, .int .i64 a0_2, .int .u64 a0_3, .int .u64 a0_4, .int .u64 a0_5]) (t := 37) ?hr ?_; (case hd => rfl); (case hg => rfl); (case hr => first | (go_simp; done) | (go_simp; rfl)); intro gb4 hg w4 hbox hb; (have BK4 := Aside0.mk hbox); (have HB1 := Aside0.mk (below_step HB.out hb)); clear hbox hb hg HB; have HB := HB1; clear HB1) | ((with_reducible refine gate_callee (f := 94) rfl ?_); refine goesL_ (some 16) rfl rfl Tryd.func94 (by kernel_rfl) rfl #[.int .u64 a1, .int .u64 a2] rfl (by (try simp only [List.map_toArray, List.map_cons, List.map_nil]); first | done | rfl) ?_; (with_reducible refine (proof_Inclusion.calls k a1 a2 ids b e x y none q1 q2 _ ?side1 A1.out).mono ?_); (case side1 => exact GlobT.below hGT HB.out); rintro e6 w6 ⟨v6, v7, v8, q6, rfl, ho, ho7, ho8, hb⟩; refine ⟨_, rfl, ?_⟩; (obtain ⟨Ai, ci, rfl⟩ := Kd.V_slice ho); (have BK41 := Aside0.mk (blk_below BK4.out hb)); (have HB1 := Aside0.mk (below_step HB.out hb)); clear ho ho7 ho8 hb BK4 HB; (have BK4 := BK41); (have HB := HB1); clear BK41 HB1; (try simp only [errW_none, errW_some])) | ((with_reducible refine gate_dst (N := 10) rfl ?_); refine box_event ?hg (N := 10) ?hd (cs := #[.slice none 0 0, .int .i64 0, .int .i64 0, .int .u64 0, .int .u64 0]) (t := 146) ?hr ?_; (case hd => rfl); (case hg => rfl); (case hr => first | (go_simp; done) | (go_simp; rfl)); intro gb10 hg w7 hbox hb; (have BK10 := Aside0.mk hbox); (have hne := Aside0.mk (show gb4 ≠ gb10 by have := blk_lt BK4.out; omega)); (have hge := Aside0.mk (show w.heap.size ≤ gb10 by have := HB.out.size; omega)); (have BK41 := Aside0.mk (blk_below BK4.out hb)); (have HB1 := Aside0.mk (below_step HB.out hb)); clear hbox hb hg BK4 HB; (have BK4 := BK41); (have HB := HB1); clear BK41 HB1; have hcz0 := (blk_cell BK10.out 0).trans rfl; have hcz1 := (blk_cell BK10.out 1).trans rfl; have hcz2 := (blk_cell BK10.out 2).trans rfl; have hcz3 := (blk_cell BK10.out 3).trans rfl; have hcz4 := (blk_cell BK10.out 4).trans rfl; have hfz0 := blk_frozen BK10.out 0; have hfz1 := blk_frozen BK10.out 1; have hfz2 := blk_frozen BK10.out 2; have hfz3 := blk_frozen BK10.out 3; have hfz4 := blk_frozen BK10.out 4))
  clear hcz0 hcz1 hcz2 hcz3 hcz4 hfz0 hfz1 hfz2 hfz3 hfz4
  have BK101 := Aside0.mk (blk_drew (impl_InclusionHashes.put5 BK10.out (.slice Ai ids.length ci) (.int .i64 b) (.int .i64 e) (.int .u64 x) (.int .u64 y)))
  have BK41 := Aside0.mk (blk_drew (impl_InclusionHashes.far5 BK4.out hne.out (.slice Ai ids.length ci) (.int .i64 b) (.int .i64 e) (.int .u64 x) (.int .u64 y)))
  have HB1 := Aside0.mk (below_drew1 (impl_InclusionHashes.below5 HB.out hge.out (.slice Ai ids.length ci) (.int .i64 b) (.int .i64 e) (.int .u64 x) (.int .u64 y)))
  clear BK10 BK4 HB
  have BK10 := BK101
  have BK4 := BK41
  have HB := HB1
  clear BK101 BK41 HB1
  refine start_ (n := 12) (S := fun w' => w'.cell? ⟨gb10, 0, none⟩ = some (.slice Ai ids.length ci) ∧ w'.cell? ⟨gb10, 1, none⟩ = some (.int .i64 b) ∧ w'.cell? ⟨gb10, 2, none⟩ = some (.int .i64 e) ∧ w'.cell? ⟨gb10, 3, none⟩ = some (.int .u64 x) ∧ w'.cell? ⟨gb10, 4, none⟩ = some (.int .u64 y) ∧ w'.cell? ⟨gb4, 0, none⟩ = some (.int .i64 a0_0) ∧ w'.cell? ⟨gb4, 1, none⟩ = some (.int .i64 a0_1) ∧ w'.cell? ⟨gb4, 2, none⟩ = some (.int .i64 a0_2) ∧ w'.cell? ⟨gb4, 3, none⟩ = some (.int .u64 a0_3) ∧ w'.cell? ⟨gb4, 4, none⟩ = some (.int .u64 a0_4) ∧ w'.cell? ⟨gb4, 5, none⟩ = some (.int .u64 a0_5)) (ds := []) #[false, false, false, false, false, false, false, false, false, false, false, false] (by kernel_rfl) rfl rfl (⟨(blk_cell BK10.out 0).trans rfl, (blk_cell BK10.out 1).trans rfl, (blk_cell BK10.out 2).trans rfl, (blk_cell BK10.out 3).trans rfl, (blk_cell BK10.out 4).trans rfl, (blk_cell BK4.out 0).trans rfl, (blk_cell BK4.out 1).trans rfl, (blk_cell BK4.out 2).trans rfl, (blk_cell BK4.out 3).trans rfl, (blk_cell BK4.out 4).trans rfl, (blk_cell BK4.out 5).trans rfl⟩) (fun hHeld => ?_)
  refine with_tabW impl_InclusionHashes.tab4 impl_InclusionHashes.bits4 (fun HT_ HW_ => ?_)
  generalize (((((w7.setCell ⟨gb10, 0, none⟩ (.slice Ai ids.length ci)).setCell ⟨gb10, 1, none⟩ (.int .i64 b)).setCell ⟨gb10, 2, none⟩ (.int .i64 e)).setCell ⟨gb10, 3, none⟩ (.int .u64 x)).setCell ⟨gb10, 4, none⟩ (.int .u64 y)).drew = w8 at BK10 BK4 HB hHeld ⊢
  refine take_ (i := 0) (N := (some 22)) (v := ?_) (a' := ?_) #[true, false, false, false, false, false, false, false, false, false, false, false] rfl rfl (take_ofW HT_.out HW_.out (by kernel_rfl)) (fun _ _ _ h => h) (Or.inl ⟨by rfl, ?_⟩) hHeld ?_ ?_
  rotate_left
  ·rintro w' ⟨s0, s1, s2, s3, s4, s5, s6, s7, s8, s9, s10⟩
   go_simp
   with_reducible rfl
  rotate_left
  ·simp only [Act.put, List.setIfInBounds_toArray, List.set_cons_zero, List.set_cons_succ, i64_w, i32_w]
   rfl
  refine pure_ (i := 1) (N := (some 23)) (v := ?_) (a' := ?_) #[true, true, false, false, false, false, false, false, false, false, false, false] rfl rfl (any_of HT_.out (by kernel_rfl)) (fun _ _ _ h => h) (Or.inl ⟨by rfl, ?_⟩) ?_ ?_
  rotate_left
  ·intro w'
   go_simp
   with_reducible rfl
  rotate_left
  ·simp only [Act.put, List.setIfInBounds_toArray, List.set_cons_zero, List.set_cons_succ, i64_w, i32_w]
   rfl
  refine take_ (i := 3) (N := (some 25)) (v := ?_) (a' := ?_) #[true, true, false, true, false, false, false, false, false, false, false, false] rfl rfl (take_ofW HT_.out HW_.out (by kernel_rfl)) (fun _ _ _ h => h) (Or.inl ⟨by rfl, ?_⟩) hHeld ?_ ?_
  rotate_left
  ·rintro w' ⟨s0, s1, s2, s3, s4, s5, s6, s7, s8, s9, s10⟩
   go_simp
   with_reducible rfl
  rotate_left
  ·simp only [Act.put, List.setIfInBounds_toArray, List.set_cons_zero, List.set_cons_succ, i64_w, i32_w]
   rfl
  refine pure_ (i := 4) (N := (some 26)) (v := ?_) (a' := ?_) #[true, true, false, true, true, false, false, false, false, false, false, false] rfl rfl (any_of HT_.out (by kernel_rfl)) (fun _ _ _ h => h) (Or.inl ⟨by rfl, ?_⟩) ?_ ?_
  rotate_left
  ·intro w'
   go_simp
   with_reducible rfl
  rotate_left
  ·simp only [Act.put, List.setIfInBounds_toArray, List.set_cons_zero, List.set_cons_succ, i64_w, i32_w]
   rfl
  refine pure_ (i := 5) (N := (some 27)) (v := ?_) (a' := ?_) #[true, true, false, true, true, true, false, false, false, false, false, false] rfl rfl (any_of HT_.out (by kernel_rfl)) (fun _ _ _ h => h) (Or.inl ⟨by rfl, ?_⟩) ?_ ?_
  rotate_left
  ·intro w'
   go_simp
   with_reducible rfl
  rotate_left
  ·simp only [Act.put, List.setIfInBounds_toArray, List.set_cons_zero, List.set_cons_succ, i64_w, i32_w]
   rfl
  refine one_ (i := 2) (N := (some 24)) #[true, true, true, true, true, true, false, false, false, false, false, false] rfl rfl (one_of HT_.out (by kernel_rfl)) (by decide) (fun K hK => ?_)
  refine goes_ Tryd.func70 (by kernel_rfl) rfl #[.slice A3 l3.length c3] (by rfl) rfl rfl (by (try simp only [List.map_toArray, List.map_cons, List.map_nil]); first | done | rfl) ?_
  with_reducible refine (impl_texts.calls k A3 c3 l3 t _ ?side1 HC3.out A2.out).mono ?_
  case side1 => exact Kd.C_below HR3.out HB.out
  rintro e6 w9 ⟨v9, rfl, ho, hb⟩
  refine ⟨_, rfl, ?_⟩
  obtain ⟨A9, c9, rfl⟩ := Kd.S_slice ho
  have hneA : Aside0 (∀ k, (.slice A9 t.length c9 : Value).ownBlock = some k → w8.heap.size ≤ k) := ⟨Kd.S_base ho⟩
  have hl10 := Aside0.mk (blk_lt BK10.out)
  have hl4 := Aside0.mk (blk_lt BK4.out)
  have HS := Aside0.mk (Kd.N_lower (Kd.N_mono (ok' := fun k => w.heap.size ≤ k) (Kd.S_N (Kd.S_bound ho)) (fun k hk => Nat.le_trans HB.out.size hk.2.1)) HB.out.size)
  have BK101 := Aside0.mk (blk_below BK10.out hb)
  have BK41 := Aside0.mk (blk_below BK4.out hb)
  have HB1 := Aside0.mk (below_step HB.out hb)
  clear BK10 BK4 HB ho hb
  have BK10 := BK101
  have BK4 := BK41
  have HB := HB1
  clear BK101 BK41 HB1
  refine hK.out _ _ ⟨(blk_cell BK10.out 0).trans rfl, (blk_cell BK10.out 1).trans rfl, (blk_cell BK10.out 2).trans rfl, (blk_cell BK10.out 3).trans rfl, (blk_cell BK10.out 4).trans rfl, (blk_cell BK4.out 0).trans rfl, (blk_cell BK4.out 1).trans rfl, (blk_cell BK4.out 2).trans rfl, (blk_cell BK4.out 3).trans rfl, (blk_cell BK4.out 4).trans rfl, (blk_cell BK4.out 5).trans rfl⟩ (fun hHeld => ?_)
  clear hK K
  refine norm_ (a' := ?_) ?_ ?_
  rotate_left
  ·show Act.put _ (some 24) _ = _
   simp only [Act.put, List.setIfInBounds_toArray, List.set_cons_zero, List.set_cons_succ, i64_w, i32_w]
   rfl
  refine one_ (i := 6) (N := (some 28)) #[true, true, true, true, true, true, true, false, false, false, false, false] rfl rfl (one_of HT_.out (by kernel_rfl)) (by decide) (fun K hK => ?_)
  refine goes_ Tryd.func95 (by kernel_rfl) rfl #[.agg #[.slice Ai ids.length ci, .int .i64 b, .int .i64 e, .int .u64 x, .int .u64 y], .slice A9 t.length c9, .func (.func 68) #[.agg #[.int .i64 a0_0, .int .i64 a0_1, .int .i64 a0_2, .int .u64 a0_3, .int .u64 a0_4, .int .u64 a0_5]] #[]] (by rfl) rfl rfl (by (try simp only [List.map_toArray, List.map_cons, List.map_nil]); first | done | rfl) ?_
  with_reducible refine (proof_Nodes_Rehash.calls k a0_0 a0_1 a0_2 a0_3 a0_4 a0_5 Ai ids.length ci b e x y A9 c9 t o er _ w _ HB.out HS.out (fun k hk => Nat.le_trans HB.out.size hk) A3_.out).mono ?_
  rintro e6 w10 ⟨v10, v11, v12, q10, rfl, ho, hb, hkp⟩
  refine ⟨_, rfl, ?_⟩
  obtain ⟨A10, c10, rfl⟩ := Kd.V_slice ho
  have HV := Aside0.mk ho
  have BK101 := Aside0.mk (blk_kept BK10.out hkp (fun he => by have := hneA.out gb10 he.symm; have := hl10.out; omega))
  have BK41 := Aside0.mk (blk_kept BK4.out hkp (fun he => by have := hneA.out gb4 he.symm; have := hl4.out; omega))
  have HB1 := Aside0.mk hb
  clear BK10 BK4 HB ho hb hkp HS
  have BK10 := BK101
  have BK4 := BK41
  have HB := HB1
  clear BK101 BK41 HB1
  refine hK.out _ _ ⟨(blk_cell BK10.out 0).trans rfl, (blk_cell BK10.out 1).trans rfl, (blk_cell BK10.out 2).trans rfl, (blk_cell BK10.out 3).trans rfl, (blk_cell BK10.out 4).trans rfl, (blk_cell BK4.out 0).trans rfl, (blk_cell BK4.out 1).trans rfl, (blk_cell BK4.out 2).trans rfl, (blk_cell BK4.out 3).trans rfl, (blk_cell BK4.out 4).trans rfl, (blk_cell BK4.out 5).trans rfl⟩ (fun hHeld => ?_)
  clear hK K
  refine norm_ (a' := ?_) ?_ ?_
  rotate_left
  ·show Act.put _ (some 28) _ = _
   simp only [Act.put, List.setIfInBounds_toArray, List.set_cons_zero, List.set_cons_succ, i64_w, i32_w]
   rfl
  refine pure_ (i := 7) (N := (some 21)) (v := ?_) (a' := ?_) #[true, true, true, true, true, true, true, true, false, false, false, false] rfl rfl (any_of HT_.out (by kernel_rfl)) (fun _ _ _ h => h) (Or.inl ⟨by rfl, ?_⟩) ?_ ?_
  rotate_left
  ·intro w'
   go_simp
   with_reducible rfl
  rotate_left
  ·simp only [Act.put, List.setIfInBounds_toArray, List.set_cons_zero, List.set_cons_succ, i64_w, i32_w]
   rfl
  refine pure_ (i := 8) (N := (some 29)) (v := ?_) (a' := ?_) #[true, true, true, true, true, true, true, true, true, false, false, false] rfl rfl (any_of HT_.out (by kernel_rfl)) (fun _ _ _ h => h) (Or.inl ⟨by rfl, ?_⟩) ?_ ?_
  rotate_left
  ·intro w'
   go_simp
   with_reducible rfl
  rotate_left
  ·simp only [Act.put, List.setIfInBounds_toArray, List.set_cons_zero, List.set_cons_succ, i64_w, i32_w]
   rfl
  refine pure_ (i := 9) (N := (some 30)) (v := ?_) (a' := ?_) #[true, true, true, true, true, true, true, true, true, true, false, false] rfl rfl (any_of HT_.out (by kernel_rfl)) (fun _ _ _ h => h) (Or.inl ⟨by rfl, ?_⟩) ?_ ?_
  rotate_left
  ·intro w'
   go_simp
   with_reducible rfl
  rotate_left
  ·simp only [Act.put, List.setIfInBounds_toArray, List.set_cons_zero, List.set_cons_succ, i64_w, i32_w]
   rfl
  refine pure_ (i := 10) (N := (some 12)) (v := ?_) (a' := ?_) #[true, true, true, true, true, true, true, true, true, true, true, false] rfl rfl (any_of HT_.out (by kernel_rfl)) (fun _ _ _ h => h) (Or.inl ⟨by rfl, ?_⟩) ?_ ?_
  rotate_left
  ·intro w'
   go_simp
   with_reducible rfl
  rotate_left
  ·simp only [Act.put, List.setIfInBounds_toArray, List.set_cons_zero, List.set_cons_succ, i64_w, i32_w]
   rfl
  refine pure_ (i := 11) (N := (some 11)) (v := ?_) (a' := ?_) #[true, true, true, true, true, true, true, true, true, true, true, true] rfl rfl (any_of HT_.out (by kernel_rfl)) (fun _ _ _ h => h) (Or.inl ⟨by rfl, ?_⟩) ?_ ?_
  rotate_left
  ·intro w'
   go_simp
   with_reducible rfl
  rotate_left
  ·simp only [Act.put, List.setIfInBounds_toArray, List.set_cons_zero, List.set_cons_succ, i64_w, i32_w]
   rfl
  refine done_ (done_of HT_.out (by kernel_rfl)) ?_
  go_wp2
  have HB1 := Aside0.mk (below_drew1 HB.out)
  have HV1 := Aside0.mk (Kd.V_drew HV.out)
  clear HB HV BK10 BK4 hHeld
  have HB := HB1
  have HV := HV1
  clear HB1 HV1
  rcases er with _ | ec
  ·simp only [errW_none]
   refine start_ (n := 6) (S := fun w' => True) (ds := []) #[false, false, false, false, false, false] (by kernel_rfl) rfl rfl (trivial) (fun hHeld => ?_)
   refine with_tabW impl_InclusionHashes.tab5 impl_InclusionHashes.bits5 (fun HT_ HW_ => ?_)
   generalize w10.drew = w11 at HB HV hHeld ⊢
   refine pure_ (i := 0) (N := (some 31)) (v := ?_) (a' := ?_) #[true, false, false, false, false, false] rfl rfl (any_of HT_.out (by kernel_rfl)) (fun _ _ _ h => h) (Or.inl ⟨by rfl, ?_⟩) ?_ ?_
   rotate_left
   ·intro w'
    go_simp
    with_reducible rfl
   rotate_left
   ·simp only [Act.put, List.setIfInBounds_toArray, List.set_cons_zero, List.set_cons_succ, i64_w, i32_w]
    rfl
   refine pure_ (i := 2) (N := (some 33)) (v := ?_) (a' := ?_) #[true, false, true, false, false, false] rfl rfl (any_of HT_.out (by kernel_rfl)) (fun _ _ _ h => h) (Or.inl ⟨by rfl, ?_⟩) ?_ ?_
   rotate_left
   ·intro w'
    go_simp
    with_reducible rfl
   rotate_left
   ·simp only [Act.put, List.setIfInBounds_toArray, List.set_cons_zero, List.set_cons_succ, i64_w, i32_w]
    rfl
   refine pure_ (i := 3) (N := (some 34)) (v := ?_) (a' := ?_) #[true, false, true, true, false, false] rfl rfl (any_of HT_.out (by kernel_rfl)) (fun _ _ _ h => h) (Or.inl ⟨by rfl, ?_⟩) ?_ ?_
   rotate_left
   ·intro w'
    go_simp
    with_reducible rfl
   rotate_left
   ·simp only [Act.put, List.setIfInBounds_toArray, List.set_cons_zero, List.set_cons_succ, i64_w, i32_w]
    rfl
   refine one_ (i := 1) (N := (some 32)) #[true, true, true, true, false, false] rfl rfl (one_of HT_.out (by kernel_rfl)) (by decide) (fun K hK => ?_)
   refine goes_ Tryd.func70 (by kernel_rfl) rfl #[.slice A10 o.length c10] (by rfl) rfl rfl (by (try simp only [List.map_toArray, List.map_cons, List.map_nil]); first | done | rfl) ?_
   with_reducible refine (impl_texts.calls k A10 c10 o z _ (Kd.V_reads' HV.out).2.2 (Kd.V_reads' HV.out).2.1 A4.out).mono ?_
   rintro e6 w12 ⟨v13, rfl, ho, hb⟩
   refine ⟨_, rfl, ?_⟩
   have HS := Aside0.mk (Kd.S_lower ho HB.out.size)
   have HB1 := Aside0.mk (below_step HB.out hb)
   clear HB ho hb HV
   refine hK.out _ _ trivial (fun hHeld => ?_)
   clear hK K
   refine norm_ (a' := ?_) ?_ ?_
   rotate_left
   ·show Act.put _ (some 32) _ = _
    simp only [Act.put, List.setIfInBounds_toArray, List.set_cons_zero, List.set_cons_succ, i64_w, i32_w]
    rfl
   refine pure_ (i := 4) (N := (some 8)) (v := ?_) (a' := ?_) #[true, true, true, true, true, false] rfl rfl (any_of HT_.out (by kernel_rfl)) (fun _ _ _ h => h) (Or.inl ⟨by rfl, ?_⟩) ?_ ?_
   rotate_left
   ·intro w'
    go_simp
    with_reducible rfl
   rotate_left
   ·simp only [Act.put, List.setIfInBounds_toArray, List.set_cons_zero, List.set_cons_succ, i64_w, i32_w]
    rfl
   refine pure_ (i := 5) (N := (some 9)) (v := ?_) (a' := ?_) #[true, true, true, true, true, true] rfl rfl (any_of HT_.out (by kernel_rfl)) (fun _ _ _ h => h) (Or.inl ⟨by rfl, ?_⟩) ?_ ?_
   rotate_left
   ·intro w'
    go_simp
    with_reducible rfl
   rotate_left
   ·simp only [Act.put, List.setIfInBounds_toArray, List.set_cons_zero, List.set_cons_succ, i64_w, i32_w]
    rfl
   refine done_ (done_of HT_.out (by kernel_rfl)) ?_
   go_wp2
   go_ret2
   exact ⟨_, rfl, HS.out, HB1.out⟩
  ·simp only [errW_some]
   refine start_ (n := 6) (S := fun w' => True) (ds := []) #[false, false, false, false, false, false] (by kernel_rfl) rfl rfl (trivial) (fun hHeld => ?_)
   refine with_tabW impl_InclusionHashes.tab5 impl_InclusionHashes.bits5 (fun HT_ HW_ => ?_)
   generalize w10.drew = w11 at HB HV hHeld ⊢
   refine pure_ (i := 0) (N := (some 31)) (v := ?_) (a' := ?_) #[true, false, false, false, false, false] rfl rfl (any_of HT_.out (by kernel_rfl)) (fun _ _ _ h => h) (Or.inl ⟨by rfl, ?_⟩) ?_ ?_
   rotate_left
   ·intro w'
    go_simp
    with_reducible rfl
   rotate_left
   ·simp only [Act.put, List.setIfInBounds_toArray, List.set_cons_zero, List.set_cons_succ, i64_w, i32_w]
    rfl
   refine pure_ (i := 2) (N := (some 33)) (v := ?_) (a' := ?_) #[true, false, true, false, false, false] rfl rfl (any_of HT_.out (by kernel_rfl)) (fun _ _ _ h => h) (Or.inl ⟨by rfl, ?_⟩) ?_ ?_
   rotate_left
   ·intro w'
    go_simp
    with_reducible rfl
   rotate_left
   ·simp only [Act.put, List.setIfInBounds_toArray, List.set_cons_zero, List.set_cons_succ, i64_w, i32_w]
    rfl
   refine pure_ (i := 3) (N := (some 34)) (v := ?_) (a' := ?_) #[true, false, true, true, false, false] rfl rfl (any_of HT_.out (by kernel_rfl)) (fun _ _ _ h => h) (Or.inl ⟨by rfl, ?_⟩) ?_ ?_
   rotate_left
   ·intro w'
    go_simp
    with_reducible rfl
   rotate_left
   ·simp only [Act.put, List.setIfInBounds_toArray, List.set_cons_zero, List.set_cons_succ, i64_w, i32_w]
    rfl
   refine one_ (i := 1) (N := (some 32)) #[true, true, true, true, false, false] rfl rfl (one_of HT_.out (by kernel_rfl)) (by decide) (fun K hK => ?_)
   refine goes_ Tryd.func70 (by kernel_rfl) rfl #[.slice A10 o.length c10] (by rfl) rfl rfl (by (try simp only [List.map_toArray, List.map_cons, List.map_nil]); first | done | rfl) ?_
   with_reducible refine (impl_texts.calls k A10 c10 o z _ (Kd.V_reads' HV.out).2.2 (Kd.V_reads' HV.out).2.1 A4.out).mono ?_
   rintro e6 w12 ⟨v13, rfl, ho, hb⟩
   refine ⟨_, rfl, ?_⟩
   have HS := Aside0.mk (Kd.S_lower ho HB.out.size)
   have HB1 := Aside0.mk (below_step HB.out hb)
   clear HB ho hb HV
   refine hK.out _ _ trivial (fun hHeld => ?_)
   clear hK K
   refine norm_ (a' := ?_) ?_ ?_
   rotate_left
   ·show Act.put _ (some 32) _ = _
    simp only [Act.put, List.setIfInBounds_toArray, List.set_cons_zero, List.set_cons_succ, i64_w, i32_w]
    rfl
   refine pure_ (i := 4) (N := (some 8)) (v := ?_) (a' := ?_) #[true, true, true, true, true, false] rfl rfl (any_of HT_.out (by kernel_rfl)) (fun _ _ _ h => h) (Or.inl ⟨by rfl, ?_⟩) ?_ ?_
   rotate_left
   ·intro w'
    go_simp
    with_reducible rfl
   rotate_left
   ·simp only [Act.put, List.setIfInBounds_toArray, List.set_cons_zero, List.set_cons_succ, i64_w, i32_w]
    rfl
   refine pure_ (i := 5) (N := (some 9)) (v := ?_) (a' := ?_) #[true, true, true, true, true, true] rfl rfl (any_of HT_.out (by kernel_rfl)) (fun _ _ _ h => h) (Or.inl ⟨by rfl, ?_⟩) ?_ ?_
   rotate_left
   ·intro w'
    go_simp
    with_reducible rfl
   rotate_left
   ·simp only [Act.put, List.setIfInBounds_toArray, List.set_cons_zero, List.set_cons_succ, i64_w, i32_w]
    rfl
   refine done_ (done_of HT_.out (by kernel_rfl)) ?_
   go_wp2
   go_ret2
   exact ⟨_, rfl, HS.out, HB1.out⟩
 ·simp only [Option.isNone_some] at H
  rw [if_neg (by decide)] at H
  simp only [Option.some.injEq, Prod.mk.injEq] at H
  obtain ⟨rfl, rfl⟩ := H
  go_enter Tryd.func42, Tryd.ntmps42
  go_wp2_with (first | ((with_reducible refine gate_dst (N := 4) rfl ?_); refine box_event ?hg (N := 4) ?hd (cs := #[.int .i64 a0_0, .int .i64 a0_1, .int .i64 a0_2, .int .u64 a0_3, .int .u64 a0_4, .int .u64 a0_5]) (t := 37) ?hr ?_; (case hd => rfl); (case hg => rfl); (case hr => first | (go_simp; done) | (go_simp; rfl)); intro gb4 hg w4 hbox hb; (have HB1 := Aside0.mk (below_step HB.out hb)); clear hbox hb hg HB; have HB := HB1; clear HB1) | ((with_reducible refine gate_callee (f := 94) rfl ?_); refine goesL_ (some 16) rfl rfl Tryd.func94 (by kernel_rfl) rfl #[.int .u64 a1, .int .u64 a2] rfl (by (try simp only [List.map_toArray, List.map_cons, List.map_nil]); first | done | rfl) ?_; (with_reducible refine (proof_Inclusion.calls k a1 a2 ids b e x y (some ec) q1 q2 _ ?side1 A1.out).mono ?_); (case side1 => exact GlobT.below hGT HB.out); rintro e6 w6 ⟨v6, v7, v8, q6, rfl, ho, ho7, ho8, hb⟩; refine ⟨_, rfl, ?_⟩; (obtain ⟨Ai, ci, rfl⟩ := Kd.V_slice ho); (have HB1 := Aside0.mk (below_step HB.out hb)); clear ho ho7 ho8 hb HB; (have HB := HB1); clear HB1; (try simp only [errW_none, errW_some])) | ((with_reducible refine gate_dst (N := 10) rfl ?_); refine box_event ?hg (N := 10) ?hd (cs := #[.slice none 0 0, .int .i64 0, .int .i64 0, .int .u64 0, .int .u64 0]) (t := 146) ?hr ?_; (case hd => rfl); (case hg => rfl); (case hr => first | (go_simp; done) | (go_simp; rfl)); intro gb10 hg w7 hbox hb; (have BK10 := Aside0.mk hbox); (have hge := Aside0.mk (show w.heap.size ≤ gb10 by have := HB.out.size; omega)); (have HB1 := Aside0.mk (below_step HB.out hb)); clear hbox hb hg HB; (have HB := HB1); clear HB1; have hcz0 := (blk_cell BK10.out 0).trans rfl; have hcz1 := (blk_cell BK10.out 1).trans rfl; have hcz2 := (blk_cell BK10.out 2).trans rfl; have hcz3 := (blk_cell BK10.out 3).trans rfl; have hcz4 := (blk_cell BK10.out 4).trans rfl; have hfz0 := blk_frozen BK10.out 0; have hfz1 := blk_frozen BK10.out 1; have hfz2 := blk_frozen BK10.out 2; have hfz3 := blk_frozen BK10.out 3; have hfz4 := blk_frozen BK10.out 4))
  go_ret2
  exact ⟨_, rfl, Kd.S_nil _ _ _ _ _, impl_InclusionHashes.below5 HB.out hge.out _ _ _ _ _⟩
def laws_logCopy.l0 : Nat → List (List Int) → List (List Int) → Int → Int → Option ((List (List Int)))
 | 0, _, _, _, _ => none
 | k + 1, x3, x6, x7, x8 => if x8 < x7 then (if 0 ≤ x8 then (if x8 < (x6.length : Int) then ((some (([] : List Int) : List Int)).bind fun y260 => (if y260.length + (rd_L1 x6 x8).length < 140737488355328 then (if x3.length < 5864062014805 then (laws_logCopy.l0 k (x3 ++ [(y260 ++ (rd_L1 x6 x8))]) x6 x7 (wrap64 (x8 + 1))) else (none)) else (none))) else (none)) else (none)) else (some x3)
def laws_logCopy.f (k : Nat) (l0 : List (List Int)) : Option ((List (List Int))) := laws_logCopy.l0 k ([] : List (List Int)) l0 (l0.length : Int) 0
theorem laws_logCopy.mono_l : ∀ k, (∀ y0 y1 y2 y3, LeO (laws_logCopy.l0 k y0 y1 y2 y3) (laws_logCopy.l0 (k + 1) y0 y1 y2 y3))
 | 0 => fun _ _ _ _ r h => by simp [laws_logCopy.l0] at h
 | k + 1 => by
  have ih0 := laws_logCopy.mono_l k
  ·intro y0 y1 y2 y3
   unfold laws_logCopy.l0
   repeat' first
   | (with_reducible exact ih0 _ _ _ _)
   | (with_reducible exact LeO.refl _)
   | (with_reducible exact LeO.none _)
   | (with_reducible refine LeO.ite ?_ ?_)
   | (with_reducible refine LeO.bind ?_ (fun _ => ?_))
   | exact ih0 _ _ _ _
   | exact LeO.none _
   | refine LeO.ite ?_ ?_
   | refine LeO.bind ?_ (fun _ => ?_)
theorem laws_logCopy.mono : ∀ a0 k, LeO (laws_logCopy.f k a0) (laws_logCopy.f (k + 1) a0) := by
 intro a0 k
 have ih0 := laws_logCopy.mono_l k
 unfold laws_logCopy.f
 repeat' first
   | (with_reducible exact ih0 _ _ _ _)
   | (with_reducible exact LeO.refl _)
   | (with_reducible exact LeO.none _)
   | (with_reducible refine LeO.ite ?_ ?_)
   | (with_reducible refine LeO.bind ?_ (fun _ => ?_))
   | exact ih0 _ _ _ _
   | exact LeO.none _
   | refine LeO.ite ?_ ?_
   | refine LeO.bind ?_ (fun _ => ?_)
set_option maxHeartbeats 8000000 in
set_option maxRecDepth 100000 in
theorem laws_logCopy.calls (k : Nat) (A0 : Option Addr) (c0 : Nat) (l0 : List (List Int)) (r : List (List Int)) (w : World) (hr0 : Kd.C (Kd.slice 5 (Kd.int .u8)) w A0 l0.length l0) (hc0 : l0.length ≤ c0) (h : laws_logCopy.f k l0 = some r) :
  Calls Tryd.prog 43 #[.slice A0 l0.length c0] w fun e w' => ∃ v0_ : Value, e = .returned (v0_) ∧ Kd.S (Kd.slice 5 (Kd.int .u8)) 42 w' w.heap.size (fun _ => True) v0_ r ∧ Below w.heap.size w w' := by
 have HR0 := Aside0.mk hr0
 have HC0 := Aside0.mk hc0
 clear hr0 hc0
 have HB := Aside0.mk (Below.refl w.heap.size w)
 have H : (laws_logCopy.l0 k ([] : List (List Int)) l0 (l0.length : Int) 0) = some r := h
 clear h
 have H' := Aside0.mk H
 clear H
 go_enter Tryd.func43, Tryd.ntmps43
 go_wp2
 try simp only [Act.put, List.setIfInBounds_toArray, List.set_cons_zero, List.set_cons_succ]
 go_loopg [3, 8] k (fun kq v3 v8 w' => ∃ (x3_1 : List (List Int)) (x8_1 : Int), v8 = .int .i64 x8_1 ∧ Aside0 (laws_logCopy.l0 kq x3_1 l0 (l0.length : Int) x8_1 = some r) ∧ Aside0 (kq ≤ k) ∧ Aside0 (Kd.S (Kd.slice 5 (Kd.int .u8)) 42 w' w.heap.size (fun _ => True) v3 x3_1) ∧ Aside0 (Below w.heap.size w w'))
 case atStart => exact ⟨(([] : List (List Int))), (0), (by first | rfl | (simp; done) | (simp [*]; done)), H', ⟨Nat.le_refl _⟩, ⟨by first | exact Kd.S_nil _ _ _ _ _ | exact Kd.N_nil _ _ _ _ _ | exact Kd.V_nil _ _ _ _ _ | exact Kd.Q_nil _ _ _ _ _ | exact Kd.R_nil _ _ _ _ _⟩, ⟨by repeat (first | (with_reducible first | exact HB.out | apply below_alloc | apply pw_below_drewN | apply below_drew1) | exact HB.out)⟩⟩
 case round =>
  clear H'
  obtain ⟨x3_1, x8_1, rfl, HA, HK1, HO_3, HB⟩ := hrel
  cases gk with
  | zero => exact absurd HA.out (by simp [laws_logCopy.l0])
  | succ k1 =>
   have H := HA.out
   clear HA
   simp only [laws_logCopy.l0] at H
   by_cases c2 : x8_1 < (l0.length : Int)
   ·rw [if_pos c2] at H
    have c2b0 : decide (x8_1 < (l0.length : Int)) = true := decide_eq_true c2
    clear c2
    by_cases c3 : 0 ≤ x8_1
    ·rw [if_pos c3] at H
     have c3b0 : decide (0 ≤ x8_1) = true := decide_eq_true c3
     clear c3
     by_cases c4 : x8_1 < (l0.length : Int)
     ·rw [if_pos c4] at H
      have c4b0 : decide (x8_1 < (l0.length : Int)) = true := decide_eq_true c4
      clear c4
      obtain ⟨y260, hy260⟩ : ∃ y_ : List Int, y_ = (([] : List Int)) := ⟨_, rfl⟩
      replace H : (if y260.length + (rd_L1 l0 x8_1).length < 140737488355328 then (if x3_1.length < 5864062014805 then (laws_logCopy.l0 k1 (x3_1 ++ [(y260 ++ (rd_L1 l0 x8_1))]) l0 (l0.length : Int) (wrap64 (x8_1 + 1))) else (none)) else (none)) = some r := by first | (rw [hy260]; with_reducible exact H) | (have H2_ := (Option.bind_some _ _).symm.trans H; rw [hy260]; with_reducible exact H2_) | (have H2_ := (Option.bind_some _ _).symm.trans H; with_reducible exact H2_) | with_reducible exact H | (rw [hy260]; exact H) | exact H
      have Ny260 := Aside0.mk hy260
      clear hy260
      by_cases c5 : y260.length + (rd_L1 l0 x8_1).length < 140737488355328
      ·rw [if_pos c5] at H
       have LMc5 := Aside0.mk c5
       clear c5
       obtain ⟨y263, hy263⟩ : ∃ y_ : List Int, y_ = (y260 ++ (rd_L1 l0 x8_1)) := ⟨_, rfl⟩
       replace H : (if x3_1.length < 5864062014805 then (laws_logCopy.l0 k1 (x3_1 ++ [y263]) l0 (l0.length : Int) (wrap64 (x8_1 + 1))) else (none)) = some r := by first | (rw [hy263]; with_reducible exact H) | (have H2_ := (Option.bind_some _ _).symm.trans H; rw [hy263]; with_reducible exact H2_) | (have H2_ := (Option.bind_some _ _).symm.trans H; with_reducible exact H2_) | with_reducible exact H | (rw [hy263]; exact H) | exact H
       have Ny263 := Aside0.mk hy263
       clear hy263
       by_cases c6 : x3_1.length < 5864062014805
       ·rw [if_pos c6] at H
        have LMc6 := Aside0.mk c6
        clear c6
        obtain ⟨y266, hy266⟩ : ∃ y_ : List (List Int), y_ = (x3_1 ++ [y263]) := ⟨_, rfl⟩
        replace H : (laws_logCopy.l0 k1 y266 l0 (l0.length : Int) (wrap64 (x8_1 + 1))) = some r := by first | (rw [hy266]; with_reducible exact H) | (have H2_ := (Option.bind_some _ _).symm.trans H; rw [hy266]; with_reducible exact H2_) | (have H2_ := (Option.bind_some _ _).symm.trans H; with_reducible exact H2_) | with_reducible exact H | (rw [hy266]; exact H) | exact H
        have Ny266 := Aside0.mk hy266
        clear hy266
        have H' := Aside0.mk H
        clear H
        have p259 : 0 ≤ (x8_1 : Int) := of_decide_eq_true (by first | (with_reducible assumption) | assumption)
        have q259 : x8_1 < (l0.length : Int) := of_decide_eq_true (by first | (with_reducible assumption) | assumption)
        obtain ⟨ad259, A259_0, c259_0, e259, hx259_0, hl259_0, hi259_0⟩ := at_L1 HR0.out x8_1 p259 q259
        cases e259
        (try replace hx259_0 := (HB.out.cell (World.block_lt_of_cell? w _ hx259_0)).trans hx259_0)
        have HR259_0 := Aside0.mk hi259_0
        have HC259_0 := Aside0.mk hl259_0
        clear hi259_0 hl259_0
        replace p259 := eq_true p259
        replace q259 := eq_true q259
        go_wp2_with (first | ((with_reducible refine gate_dst (N := 13) rfl ?_); refine Kd.R_lit (Kd.int .u8) _ 5 ?hg (N := 13) ?hd (xs := ([] : List Int)) (inner := []) (ok := fun _ => True) (okp := fun _ => True) ?hr ?hp (fun _ hk => hk) trivial (Below.refl _ _) (Nat.le_refl _) (by simp) ?_; (case hd => rfl); (case hg => rfl); (case hr => first | (go_simp; done) | (go_simp; rfl)); (case hp => exact (Reps.none _ _)); intro v261 w7 ho8 hb hg_ hnew_; clear hg_ hnew_; (first | rw [← Ny260.out] at ho8 | (simp only [Int.reduceToNat] at ho8; rw [← Ny260.out] at ho8)); have n0_ := Aside0.mk (Kd.S_elder' (by (with_reducible repeat (first | apply Kd.S_alloc | apply Kd.S_drewN | apply Kd.S_drew)); exact HO_3.out) (Kd.R_base ho8) hb); have n1_ := Aside0.mk (Kd.R_lower ho8 (below_size (by repeat (first | (with_reducible first | exact HB.out | apply below_alloc | apply pw_below_drewN | apply below_drew1) | exact HB.out)))); have n2_ := Aside0.mk (below_step (by repeat (first | (with_reducible first | exact HB.out | apply below_alloc | apply pw_below_drewN | apply below_drew1) | exact HB.out)) hb); clear HO_3; clear HB; have HO_3 := n0_; have HO262 := n1_; have HB := n2_; clear n0_ n1_ n2_; clear hb ho8) | ((with_reducible refine gate_builtin (b := .append) (xs := #[.tmp 13, .tmp 14]) rfl ?_); at_builtin; refine Kd.R_append_rows (Kd.int .u8) (w0 := w) w.heap.size rfl (.tmp 13) (.tmp 14) 42 5 (.int .u8 0) 1 rfl Tryd.underlying42 info5 rfl (by decide) (by omega) v261 y260 (rd_L1 l0 x8_1) _ _ _ (fun _ => True) (fun _ => False) rfl rfl ?aO ?aR (fun _ _ h => h) (fun _ h => h.elim) ?aF ?aB ?aS ?aL ?_; (case aR => repeat (first | exact (Kd.C_below HR259_0.out HB.out) | (with_reducible refine Kd.C_alloc ?_ _) | (with_reducible refine Kd.C_drewN ?_ _) | (with_reducible refine Kd.C_drew ?_))); (case aB => exact (by repeat (first | (with_reducible first | exact HB.out | apply below_alloc | apply pw_below_drewN | apply below_drew1) | exact HB.out))); (case aF => exact (fun _ _ => trivial)); (case aO => exact (by (with_reducible repeat (first | apply Kd.R_alloc | apply Kd.R_drewN | apply Kd.R_drew)); exact HO262.out)); (case aS => exact (below_size (by repeat (first | (with_reducible first | exact HB.out | apply below_alloc | apply pw_below_drewN | apply below_drew1) | exact HB.out)))); (case aL => have := LMc5.out; omega); intro v264 w9 ho hb hg hat; rw [← Ny263.out] at ho; have n0_ := Aside0.mk (Kd.S_after (ok := (fun _ => True)) (by (with_reducible repeat (first | apply Kd.S_alloc | apply Kd.S_drewN | apply Kd.S_drew)); exact HO_3.out) hg hat); have n1_ := Aside0.mk (hb); have n2_ := Aside0.mk (ho); clear HO_3; clear HB; clear HO262; have HO_3 := n0_; have HB := n1_; have HO265 := n2_; clear n0_ n1_ n2_; clear ho hb hg hat; obtain ⟨Ao11, co11, eo11⟩ := Kd.R_slice HO265.out; subst eo11) | ((with_reducible refine gate_builtin (b := .append) (xs := #[.tmp 12, .tmp 16]) rfl ?_); at_builtin; refine Kd.S_append (Kd.slice 5 (Kd.int .u8)) (w0 := w) w.heap.size rfl (.tmp 12) (.tmp 16) 38 42 (.slice none 0 0) 24 rfl Tryd.underlying38 info42 rfl (by decide) (by omega) u3 x3_1 y263 [.slice Ao11 y263.length co11] (fun _ => True) (fun k_ => some k_ = (.slice Ao11 y263.length co11 : Value).ownBlock) rfl rfl ?aP (fun k_ hk_ => ((Kd.R_mono (ok' := fun k_ => ((fun _ => True)) k_ ∧ some k_ ≠ (u3 : Value).ownBlock) (Kd.R_apart' (HO265.out) (Kd.S_typed HO_3.out) (by decide)) (fun k_ hk => ⟨trivial, hk.2⟩))).1 k_ hk_.symm) ?aF ?aO ?aB ?aS ?aL ?_; (case aP => exact Kd.M_row (Kd.R_mono (Kd.R_tight rfl (Kd.R_mono (ok' := fun k_ => ((fun _ => True)) k_ ∧ some k_ ≠ (u3 : Value).ownBlock) (Kd.R_apart' (HO265.out) (Kd.S_typed HO_3.out) (by decide)) (fun k_ hk => ⟨trivial, hk.2⟩))) (fun _ h_ => h_))); (case aB => exact (by repeat (first | (with_reducible first | exact HB.out | apply below_alloc | apply pw_below_drewN | apply below_drew1) | exact HB.out))); (case aF => exact (fun _ _ => trivial)); (case aO => exact (by (with_reducible repeat (first | apply Kd.S_alloc | apply Kd.S_drewN | apply Kd.S_drew)); exact Kd.S_mono HO_3.out (fun k_ hk => ⟨trivial, fun e_ => hk.2 e_⟩))); (case aS => exact (below_size (by repeat (first | (with_reducible first | exact HB.out | apply below_alloc | apply pw_below_drewN | apply below_drew1) | exact HB.out)))); (case aL => have := LMc6.out; omega); intro v267 w10 ho hb hg hat; rw [← Ny266.out] at ho; have n0_ := Aside0.mk (hb); have n1_ := Aside0.mk (ho); clear HB; clear HO_3; clear HO265; have HB := n0_; have HO268 := n1_; clear n0_ n1_; clear ho hb hg hat))
        go_roundg k1
        case measure => have := HK1.out; omega
        case rel => exact ⟨(y266), (wrap64 (x8_1 + 1)), (by first | rfl | (simp; done) | (simp [*]; done)), H', ⟨by have := HK1.out; omega⟩, ⟨by (with_reducible repeat (first | apply Kd.S_alloc | apply Kd.S_drewN | apply Kd.S_drew)); exact HO268.out⟩, ⟨by repeat (first | (with_reducible first | exact HB.out | apply below_alloc | apply pw_below_drewN | apply below_drew1) | exact HB.out)⟩⟩
       ·rw [if_neg c6] at H
        exact absurd H (by simp)
      ·rw [if_neg c5] at H
       exact absurd H (by simp)
     ·rw [if_neg c4] at H
      exact absurd H (by simp)
    ·rw [if_neg c3] at H
     exact absurd H (by simp)
   ·rw [if_neg c2] at H
    have c2b0 : decide (x8_1 < (l0.length : Int)) = false := decide_eq_false c2
    clear c2
    obtain rfl := Option.some.inj H
    go_wp2
    go_ret
    exact ⟨_, by first | rfl | (simp [errW_none, errW_some] <;> rfl) | (simp [*, errW_none, errW_some] <;> rfl), by (with_reducible repeat (first | apply Kd.S_alloc | apply Kd.S_drewN | apply Kd.S_drew)); exact HO_3.out, by repeat (first | (with_reducible first | exact HB.out | apply below_alloc | apply pw_below_drewN | apply below_drew1) | exact HB.out)⟩
end Go.Proofs.YtijldedhcjkhiaaDoor.I
