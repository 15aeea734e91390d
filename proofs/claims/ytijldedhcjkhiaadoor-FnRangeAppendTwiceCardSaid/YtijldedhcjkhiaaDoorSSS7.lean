import Derived.Test.YtijldedhcjkhiaaDoorSSS0
import Derived.Test.YtijldedhcjkhiaaDoorSSS5
import Derived.Test.YtijldedhcjkhiaaDoorSSS6
namespace Go.Proofs.YtijldedhcjkhiaaDoor.S
open Go.RowKit Go.Proofs.YtijldedhcjkhiaaDoorW.PrintWords Go.Proofs.YtijldedhcjkhiaaDoorW.PrintLast Go.Proofs.YtijldedhcjkhiaaDoorW.PrintMore
attribute [local go_sem] max2_int min2_int max_two min_two max_three min_three max_four min_four   -- for this text's walks alone
set_option linter.unusedVariables false
set_option linter.unusedSimpArgs false
theorem glob_keptR {w w' : World} {S : Nat → Prop} (hG : GlobT w) (hk : Kept w w' S) (hn : ¬ S 0) : GlobT w' := ⟨fun j hj => by
  have h := hG.out j hj
  have hb := hk.2 0 (World.block_lt_of_cell? _ _ h) hn
  rw [← h]
  simp only [World.cell?, hb]⟩
set_option maxHeartbeats 8000000 in
set_option maxRecDepth 100000 in
theorem compact_Range_Append.calls (k : Nat) (h0 h1 h2 h3 h4 h5 : Int) (bf br s lo low hi0 hi x0 ones : Nat) (b : Int) (e : Nat) (vis : Nat) (hV : VisOk vis) (c0 c2 : Nat) (AT A2 : Option Addr) (T : List (List Int)) (leaf : List Int) (vs : Value) (L : List S88) (T' : List Int) (i1 i2 : Nat) (L' : List S88) (w : World) (hGT : GlobT w)
    (hmp : compact_getMergePath.f b (e : Int) ((e : Int) + 1) = some ((low : Int), (hi0 : Int))) (hl : low ≤ 64) (hh : hi0 ≤ 64) (hhi : hi = if hi0 < low then low else hi0) (he : e + 1 < 18446744073709551616) (hx : x0 = e / 2 ^ low)
    (hon : bits_OnesCount64.f (Go.bits .and .u64 (x0 : Int) ((2 ^ (hi - low) - 1 : Nat) : Int)) = some (ones : Int)) (ho1 : ones ≤ T.length) (ho2 : (hi - low : Nat) ≤ ones) (hT1 : T.length ≤ 1000000) (hLB : L.length < 800000) (hll : leaf.length < 140737488355328)
    (hap : apl k h0 h1 h2 h3 h4 h5 T [] (hi - low) low T.length 0 x0 leaf (L ++ [⟨⟨0, (e : Int)⟩, leaf⟩]) = some (T', i1, i2, L'))
    (hF : w.heap[bf]? = some (.cells (facCells h0 h1 h2 h3 h4 h5) 117 (0, 0))) (hR : w.heap[br]? = some (.cells (rngCells bf b (e : Int) (.slice AT T.length c0)) 167 (0, 0)))
    (hT : Kd.N (Kd.slice 5 (Kd.int .u8)) 42 w lo (okA br s vs) (.slice AT T.length c0) T) (hc2 : leaf.length ≤ c2) (hs : Kd.F (Kd.int .u8) w (okB br s vs (.slice AT T.length c0)) A2 leaf.length leaf)
    (hS : Seen w s (fun k => some k ≠ (Value.slice AT T.length c0).ownBlock) vs L) (hbs : br < s) (hfs : bf < s) (hlo : lo ≤ w.heap.size) :
    Calls Tryd.prog 89 #[.pointer (some ⟨br, 0, none⟩), .slice A2 leaf.length c2, .func (.func vis) #[] #[.pointer (some ⟨s, 0, none⟩)]] w fun e' w' => ∃ (A' : Option Addr) (c' : Nat) (vs' : Value), e' = .returned .nilIface ∧ w'.heap[bf]? = some (.cells (facCells h0 h1 h2 h3 h4 h5) 117 (0, 0)) ∧ w'.heap[br]? = some (.cells (rngCells bf b ((e : Int) + 1) (.slice A' (T.take i1 ++ [T'] ++ ([] : List (List Int)).drop i2).length c')) 167 (0, 0)) ∧ Kd.N (Kd.slice 5 (Kd.int .u8)) 42 w' lo (okA br s vs') (.slice A' (T.take i1 ++ [T'] ++ ([] : List (List Int)).drop i2).length c') (T.take i1 ++ [T'] ++ ([] : List (List Int)).drop i2) ∧ Seen w' s (fun k => some k ≠ (Value.slice A' (T.take i1 ++ [T'] ++ ([] : List (List Int)).drop i2).length c').ownBlock) vs' L' ∧ KeptB w w' (fun k => k = br ∨ k = s ∨ some k = vs.ownBlock ∨ some k = (Value.slice AT T.length c0).ownBlock) ∧ Moved w.heap.size vs vs' ∧ Moved w.heap.size (.slice AT T.length c0) (.slice A' (T.take i1 ++ [T'] ++ ([] : List (List Int)).drop i2).length c') := by
  have hu38 := Tryd.underlying38
  have hu42 := Tryd.underlying42
  have hu167 := Tryd.underlying167
  have hu120 := Tryd.underlying120
  have hnf := func_not_nil vis s
  obtain ⟨vfn, hvf, hvn, hvb⟩ := hV.fn
  have HF := Aside0.mk hF
  have HR := Aside0.mk hR
  have HT := Aside0.mk hT
  have HS := Aside0.mk hS
  have HSD := Aside0.mk hs
  have HMP := Aside0.mk hmp
  have HON := Aside0.mk hon
  have HAP := Aside0.mk hap
  have HX := Aside0.mk hx
  have HLB := Aside0.mk hLB
  have HHI := Aside0.mk hhi
  have hc1 : w.cell? ⟨br, 2, none⟩ = some (.int .u64 (e : Int)) := (blk_cell HR.out 2).trans rfl
  have hw1 : IntKind.u64.wrap ((e : Int) + 1) = (e : Int) + 1 := by
    simp only [IntKind.wrap, IntKind.signed, IntKind.bits]
    first | omega | (simp; omega)
  have hvb : ∀ k, vs.ownBlock = some k → s + 1 ≤ k := Kd.S_base HS.out.row
  have hnsF : ¬ shows s vs bf := by
    rintro (h | h)
    · omega
    · have := hvb bf h.symm; omega
  have hnsR : ¬ shows s vs br := by
    rintro (h | h)
    · omega
    · have := hvb br h.symm; omega
  have hnsA : ∀ k, okA br s vs k → ¬ shows s vs k := fun k hk h => h.elim hk.2.1 hk.2.2
  have hnsG : ¬ shows s vs 0 := by
    rintro (h | h)
    · omega
    · have := hvb 0 h.symm; omega
  clear hF hR hT hS hs hmp hon hap hx hhi hLB hvb
  go_enter Tryd.func89, Tryd.ntmps89
  go_wp2_with (first | ((with_reducible refine gate_callee (f := 107) rfl ?_); refine goesL_ (some 14) rfl rfl Tryd.func107 (by kernel_rfl) rfl #[.int .u64 0, .int .u64 (e : Int)] rfl (by (try simp only [List.map_toArray, List.map_cons, List.map_nil]); first | done | rfl) ?_; (with_reducible refine (compact_NewNodeID.calls 0 (e : Int) 0 (e : Int) _ rfl).mono ?_); rintro e9 w9 ⟨rfl, hb9⟩; refine ⟨_, rfl, ?_⟩; (have KP9 := Aside0.mk (KeptB.of_below hb9 (fun k => k = br ∨ k = s ∨ some k = vs.ownBlock ∨ some k = (Value.slice AT T.length c0).ownBlock))); (have HG9 := Aside0.mk (hGT.below hb9)); (have HF9 := Aside0.mk (blk_below HF.out hb9)); (have HR9 := Aside0.mk (blk_below HR.out hb9)); (have HT9 := Aside0.mk (Kd.N_below HT.out hb9)); (have HS9 := Aside0.mk (HS.out.below hb9)); (have HSD9 := Aside0.mk (F_belowR HSD.out hb9)); clear hb9) | ((with_reducible refine gate_funcval (t := 9) rfl ?_); refine closL_ (some 16) rfl rfl hvf hvn hvb #[.agg #[.int .u64 0, .int .u64 (e : Int)], .slice A2 leaf.length c2] #[.agg #[.int .u64 0, .int .u64 (e : Int)], .slice A2 leaf.length c2, .pointer (some ⟨s, 0, none⟩)] rfl rfl (by (try simp only [List.map_toArray, List.map_cons, List.map_nil]); first | done | rfl) rfl ?_; (refine (hV.run 0 (e : Int) A2 c2 leaf s (fun k => some k ≠ (Value.slice AT T.length c0).ownBlock) vs L _ ?sp HS9.out (Kd.F_now HSD9.out) hc2 ?sl hll).mono ?_); (case sp => exact fun k hk he => by have := Kd.N_lt HT9.out k he.symm; omega); (case sl => have := HLB.out; omega); rintro e10 w10 ⟨v0_, vs2, rfl, hS2, hK2, hM2⟩; refine ⟨_, rfl, ?_⟩; (have HS10 := Aside0.mk hS2); (have HK10 := Aside0.mk hK2); (have HM10 := Aside0.mk hM2); clear hS2 hK2 hM2; (have hc2_ : w10.cell? ⟨br, 2, none⟩ = some (.int .u64 (e : Int)) := (blk_cell (blk_kept HR9.out HK10.out.1 hnsR) 2).trans rfl)) | (go_at_call 121; (have HF10 := Aside0.mk (blk_kept HF9.out HK10.out.1 hnsF)); (have HR10 := Aside0.mk (blk_kept HR9.out HK10.out.1 hnsR)); (have HT10 := Aside0.mk (Kd.N_mono (Kd.N_kept (Kd.N_bound HT9.out) HK10.out.1 (fun k hk => hnsA k hk.1)) (fun k hk => okA.after HM10.out hk))); (have HSD10 := Aside0.mk (Kd.F_mono (F_keptR (Kd.F_bound HSD9.out) HK10.out.1 (fun k hk => hnsA k hk.1.1)) (fun k hk => okB.after HM10.out (Moved.refl _ _) hk))); (have HG10 := Aside0.mk (glob_keptR HG9.out HK10.out.1 hnsG)); refine (compact_Range_appendImpl.calls k h0 h1 h2 h3 h4 h5 bf br s lo low hi0 hi x0 ones b e ((e : Int) + 1) vis hV 0 c0 c2 0 AT A2 none T [] leaf vs2 (L ++ [⟨⟨0, (e : Int)⟩, leaf⟩]) T' i1 i2 L' w10 HG10.out HMP.out hl hh HHI.out (by omega) HX.out HON.out ho1 (by rw [List.length_nil]; omega) hT1 (by rw [List.length_nil]; omega) ?lb HAP.out HF10.out HR10.out HT10.out (Nat.zero_le _) (Kd.F_nil _ _ _) hc2 HSD10.out HS10.out hbs hfs ?lo).mono ?_; (case lb => have := HLB.out; rw [List.length_append, List.length_singleton]; omega); (case lo => have h1 := KP9.out.1.1; have h2 := HK10.out.1.1; omega); rintro e11 w11 ⟨A11, c11, vs11, rfl, p1, p2, p3, p4, p5, p6, p7⟩; (have HP11 := Aside0.mk (And.intro p1 (And.intro p2 (And.intro p3 (And.intro p4 (And.intro p5 (And.intro p6 p7))))))); clear p1 p2 p3 p4 p5 p6 p7; try refine ⟨_, rfl, ?_⟩))
  go_ret
  obtain ⟨p1, p2, p3, p4, p5, p6, p7⟩ := HP11.out
  have hz9 := KP9.out.1.1
  have hz10 := HK10.out.1.1
  have wK : KeptB w w11 (fun k => k = br ∨ k = s ∨ some k = vs.ownBlock ∨ some k = (Value.slice AT T.length c0).ownBlock) := (KP9.out.then_ HK10.out (fun k hk => Or.inl (hk.elim (fun h => Or.inr (Or.inl h)) (fun h => Or.inr (Or.inr (Or.inl h)))))).then_ p5 (fun k hk => by
    rcases hk with h | h | h | h
    · exact Or.inl (Or.inl h)
    · exact Or.inl (Or.inr (Or.inl h))
    · rcases HM10.out with e_ | ⟨b_, e_, hb_⟩
      · exact Or.inl (Or.inr (Or.inr (Or.inl (h.trans e_))))
      · rw [e_] at h; injection h with h; exact Or.inr (by omega)
    · exact Or.inl (Or.inr (Or.inr (Or.inr h))))
  have wM1 : Moved w.heap.size vs vs11 := (Moved.refl w.heap.size vs).trans (Moved.trans (n := w9.heap.size) (n' := w10.heap.size) HM10.out p6 hz10) hz9
  have wM2 := (Moved.refl w.heap.size (Value.slice AT T.length c0)).trans p7 (Nat.le_trans hz9 hz10)
  exact ⟨A11, c11, vs11, by first | (go_simp; done) | (go_simp; rfl) | rfl, p1, p2, p3, p4, wK, wM1, wM2⟩
def impl_Append_1.T1 : Bool × List (List Nat × List Nat) := (true, [([], []), ([], []), ([1], [1]), ([], []), ([], []), ([3, 4, 2], [3, 4]), ([2, 5], [2, 5]), ([6], [6]), ([0, 7, 5], [0, 7]), ([8, 8, 0, 1, 2, 3, 4, 5, 6, 7, 8], [8])])
def impl_Append_1.B1 : List Nat := [0, 0, 2, 0, 0, 30, 62, 126, 255, 511]
theorem impl_Append_1.tab1 : rtab .any (opsOf Tryd.f90 1) = impl_Append_1.T1 := by kernel_rfl
theorem impl_Append_1.bits1 : waitsOk impl_Append_1.T1.2 impl_Append_1.B1 = true := by kernel_rfl
set_option maxHeartbeats 8000000 in
set_option maxRecDepth 100000 in
theorem impl_Append_1.calls (lv ix : Int) (A : Option Addr) (c : Nat) (l : List Int) (s : Nat) (P : Nat → Prop) (v : Value) (L : List S88) (w : World) (hP : ∀ k, w.heap.size ≤ k → P k) (hS : Seen w s P v L) (hC : Kd.C (Kd.int .u8) w A l.length l) (hc : l.length ≤ c) (hL : L.length < 1000000) (hll : l.length < 140737488355328) :
    Calls Tryd.prog 90 #[.agg #[.int .u64 lv, .int .u64 ix], .slice A l.length c, .pointer (some ⟨s, 0, none⟩)] w fun e w' => ∃ v0 v' : Value, e = .returned v0 ∧ Seen w' s P v' (L ++ [⟨⟨lv, ix⟩, l⟩]) ∧ KeptB w w' (shows s v) ∧ (v'.ownBlock = v.ownBlock ∨ ∃ b, v'.ownBlock = some b ∧ w.heap.size ≤ b) := by
  have hu43 := Tryd.underlying43
  have hu42 := Tryd.underlying42
  have hu107 := Tryd.underlying107
  have HP := Aside0.mk hP
  have HS := Aside0.mk hS
  have HC := Aside0.mk hC
  clear hS hC hP
  go_enter Tryd.func90, Tryd.ntmps90
  go_wp2_with (first | ((with_reducible refine gate_dst (N := 3) rfl ?_); refine box_event ?hg (N := 3) ?hd (cs := #[.int .u64 lv, .int .u64 ix]) (t := 107) ?hr ?_; (case hd => rfl); (case hg => rfl); (case hr => first | (go_simp; done) | (go_simp; rfl)); intro gb hg w4 hbox hb; (have BK := Aside0.mk hbox); (have HB := Aside0.mk hb); (have GB := Aside0.mk hg); clear hbox hb hg))
  have hgb : gb ≠ s := by
    have h1 := HS.out.lt
    have h2 : gb = w.heap.size := GB.out
    omega
  have HBK := Aside0.mk (blk_drew BK.out)
  have HB1 := Aside0.mk (below_drew1 HB.out)
  clear BK HB
  have HB := HB1
  clear HB1
  refine start_ (n := 10) (S := fun w' => w'.cell? ⟨s, 0, none⟩ = some v ∧ w'.cell? ⟨gb, 0, none⟩ = some (.int .u64 lv) ∧ w'.cell? ⟨gb, 1, none⟩ = some (.int .u64 ix)) (ds := [9]) #[false, false, false, false, false, false, false, false, false, false] (by kernel_rfl) rfl rfl (⟨(blk_cell (HS.out.below HB.out).cell 0).trans rfl, (blk_cell HBK.out 0).trans rfl, (blk_cell HBK.out 1).trans rfl⟩) (fun hHeld => ?_)
  refine with_tabW impl_Append_1.tab1 impl_Append_1.bits1 (fun HT_ HW_ => ?_)
  generalize w4.drew = w5 at HB HBK hHeld ⊢
  refine take_ (i := 0) (N := (some 5)) (v := ?_) (a' := ?_) #[true, false, false, false, false, false, false, false, false, false] rfl rfl (take_ofW HT_.out HW_.out (by kernel_rfl)) (fun _ _ _ h => h) (Or.inl ⟨by rfl, ?_⟩) hHeld ?_ ?_
  rotate_left
  · rintro w' ⟨s0, s1, s2⟩
    go_simp
    with_reducible rfl
  rotate_left
  · simp only [Act.put, List.setIfInBounds_toArray, List.set_cons_zero, List.set_cons_succ, i64_w, i32_w]
    rfl
  refine take_ (i := 1) (N := (some 6)) (v := ?_) (a' := ?_) #[true, true, false, false, false, false, false, false, false, false] rfl rfl (take_ofW HT_.out HW_.out (by kernel_rfl)) (fun _ _ _ h => h) (Or.inl ⟨by rfl, ?_⟩) hHeld ?_ ?_
  rotate_left
  · rintro w' ⟨s0, s1, s2⟩
    go_simp
    with_reducible rfl
  rotate_left
  · simp only [Act.put, List.setIfInBounds_toArray, List.set_cons_zero, List.set_cons_succ, i64_w, i32_w]
    rfl
  refine pure_ (i := 4) (N := (some 9)) (v := ?_) (a' := ?_) #[true, true, false, false, true, false, false, false, false, false] rfl rfl (any_of HT_.out (by kernel_rfl)) (fun _ _ _ h => h) (Or.inl ⟨by rfl, ?_⟩) ?_ ?_
  rotate_left
  · intro w'
    go_simp
    with_reducible rfl
  rotate_left
  · simp only [Act.put, List.setIfInBounds_toArray, List.set_cons_zero, List.set_cons_succ, i64_w, i32_w]
    rfl
  refine two_ (i := 2) (j := 3) (Ni := (some 7)) (Nj := (some 8)) #[true, true, true, false, true, false, false, false, false, false] #[true, true, false, true, true, false, false, false, false, false] rfl rfl rfl rfl (two_of HT_.out (by kernel_rfl)) (by decide) (by decide) (fun K hK => ?_) (fun K hK => ?_)
  · skip
    refine goes_ Tryd.func73 (by kernel_rfl) rfl #[.agg #[.int .u64 lv, .int .u64 ix]] (by rfl) rfl rfl (by (try simp only [List.map_toArray, List.map_cons, List.map_nil]); first | done | rfl) ?_
    with_reducible refine (impl_fromNode.calls lv ix lv ix _ rfl).mono ?_
    rintro e6 w6 ⟨rfl, hb6⟩
    refine ⟨_, rfl, ?_⟩
    have HB1 := Aside0.mk (below_step HB.out hb6)
    have HBK1 := Aside0.mk (blk_below HBK.out hb6)
    clear hb6 HB HBK
    have HB := HB1
    have HBK := HBK1
    clear HB1 HBK1
    refine hK.out _ _ ⟨(blk_cell (HS.out.below HB.out).cell 0).trans rfl, (blk_cell HBK.out 0).trans rfl, (blk_cell HBK.out 1).trans rfl⟩ (fun hHeld => ?_)
    clear hK K
    refine norm_ (a' := ?_) ?_ ?_
    rotate_left
    · show Act.put _ (some 7) _ = _
      simp only [Act.put, List.setIfInBounds_toArray, List.set_cons_zero, List.set_cons_succ, i64_w, i32_w]
      rfl
    refine one_ (i := 3) (N := (some 8)) #[true, true, true, true, true, false, false, false, false, false] rfl rfl (one_of HT_.out (by kernel_rfl)) (by decide) (fun K hK => ?_)
    refine Kd.R_lit_step (w0 := w) (Kd.int .u8) w.heap.size 5 ?hg (N := 8) ?hd (xs := ([] : List Int)) (inner := []) (ok := fun k => w.heap.size ≤ k) (okp := fun _ => False) ?hr ?hp (fun _ hk => hk.elim) ?hf HB.out HB.out.size (by simp) ?_
    case hd => rfl
    case hg => rfl
    case hr => first | (go_simp; done) | (go_simp; rfl)
    case hp => exact (Reps.none _ _)
    case hf => exact HB.out.size
    intro v8 w8 ho8 hb8 hg8 hnew8
    have HB2 := Aside0.mk hb8
    have HBK2 := Aside0.mk (blk_grown HBK.out hg8 (by simp))
    have HN8 := Aside0.mk (show some gb ≠ v8.ownBlock by obtain ⟨b, e, hle⟩ := hnew8; rw [e]; intro h; injection h with h; have := blk_lt HBK.out; omega)
    have HO8 := Aside0.mk ho8
    clear ho8 hb8 hg8 hnew8 HB HBK
    have HB := HB2
    have HBK := HBK2
    clear HB2 HBK2
    refine hK.out _ _ ⟨(blk_cell (HS.out.below HB.out).cell 0).trans rfl, (blk_cell HBK.out 0).trans rfl, (blk_cell HBK.out 1).trans rfl⟩ (fun hHeld => ?_)
    clear hK K
    refine norm_ (a' := ?_) ?_ ?_
    rotate_left
    · show Act.put _ (some 8) _ = _
      simp only [Act.put, List.setIfInBounds_toArray, List.set_cons_zero, List.set_cons_succ, i64_w, i32_w]
      rfl
    refine one_ (i := 5) (N := (some 10)) #[true, true, true, true, true, true, false, false, false, false] rfl rfl (one_of HT_.out (by kernel_rfl)) (by decide) (fun K hK => ?_)
    refine Kd.R_append_rows_step (Kd.int .u8) (w0 := w) w.heap.size (by rfl) (.tmp 8) (.tmp 9) 42 5 (.int .u8 0) 1 rfl Tryd.underlying42 info5 rfl (by decide) (by omega) v8 [] l _ _ _ (fun k => w.heap.size ≤ k) (fun _ => False) rfl rfl HO8.out (Kd.C_below HC.out HB.out) (fun _ _ h => h) (fun _ h => h.elim) (fun k hk => Nat.le_trans HB.out.size hk) HB.out HB.out.size (by simp; omega) ?_
    intro v10 w10 ho hb hg hat
    rw [List.nil_append] at ho
    obtain ⟨A10, c10, rfl⟩ := Kd.R_slice ho
    have HBK1 := Aside0.mk (blk_grown HBK.out hg HN8.out)
    have HO10 := Aside0.mk ho
    have HB1 := Aside0.mk hb
    clear ho hb hg hat HBK HB HO8 HN8
    have HBK := HBK1
    have HB := HB1
    clear HBK1 HB1
    refine hK.out _ _ ⟨(blk_cell (HS.out.below HB.out).cell 0).trans rfl, (blk_cell HBK.out 0).trans rfl, (blk_cell HBK.out 1).trans rfl⟩ (fun hHeld => ?_)
    clear hK K
    refine norm_ (a' := ?_) ?_ ?_
    rotate_left
    · show Act.put _ (some 10) _ = _
      simp only [Act.put, List.setIfInBounds_toArray, List.set_cons_zero, List.set_cons_succ, i64_w, i32_w]
      rfl
    refine pure_ (i := 6) (N := (some 11)) (v := ?_) (a' := ?_) #[true, true, true, true, true, true, true, false, false, false] rfl rfl (any_of HT_.out (by kernel_rfl)) (fun _ _ _ h => h) (Or.inl ⟨by rfl, ?_⟩) ?_ ?_
    rotate_left
    · intro w'
      go_simp
      with_reducible rfl
    rotate_left
    · simp only [Act.put, List.setIfInBounds_toArray, List.set_cons_zero, List.set_cons_succ, i64_w, i32_w]
      rfl
    refine one_ (i := 7) (N := (some 12)) #[true, true, true, true, true, true, true, true, false, false] rfl rfl (one_of HT_.out (by kernel_rfl)) (by decide) (fun K hK => ?_)
    refine value_ (w1 := w10.alloc (.cells #[.int .u64 lv, .int .u64 ix, .slice A10 l.length c10] 88)) (v := .slice (some ⟨w10.heap.size, 0, none⟩) 1 1) (by rfl) rfl (by first | (go_simp; done) | (go_simp; rfl)) ?_
    refine hK.out _ _ ⟨(blk_cell (blk_alloc (HS.out.below HB.out).cell _) 0).trans rfl, (blk_cell (blk_alloc HBK.out _) 0).trans rfl, (blk_cell (blk_alloc HBK.out _) 1).trans rfl⟩ (fun hHeld => ?_)
    clear hK K
    refine norm_ (a' := ?_) ?_ ?_
    rotate_left
    · show Act.put _ (some 12) _ = _
      simp only [Act.put, List.setIfInBounds_toArray, List.set_cons_zero, List.set_cons_succ, i64_w, i32_w]
      rfl
    refine one_ (i := 8) (N := (some 13)) #[true, true, true, true, true, true, true, true, true, false] rfl rfl (one_of HT_.out (by kernel_rfl)) (by decide) (fun K hK => ?_)
    have hlv : ∀ k, v.ownBlock = some k → k < w.heap.size := Kd.S_lt HS.out.row
    refine Kd.S_append_step k88 (w0 := w10) (s + 1) (by rfl) (.tmp 5) (.tmp 12) 43 88 (.agg #[.int .u64 0, .int .u64 0, .slice none 0 0]) 40 rfl Tryd.underlying43 info88 rfl (by decide) (by omega) v L ⟨⟨lv, ix⟩, l⟩ [.int .u64 lv, .int .u64 ix, .slice A10 l.length c10] (fun k => s < k ∧ P k) (fun k => w.heap.size ≤ k) rfl rfl ?aP ?aK ?aF (Kd.S_mono (Kd.S_below (Kd.S_bound HS.out.row) HB.out) (fun k hk => ⟨hk.1, Nat.not_le.mpr hk.2.2.1⟩)) (Below.refl _ _) ?aS (by omega) ?_
    case aP => exact k88_mkM _ _ _ ⟨⟨lv, ix⟩, l⟩ (Kd.R_lower HO10.out HS.out.lt)
    case aK => exact fun k hk => ⟨⟨Nat.lt_of_lt_of_le HS.out.lt hk, HP.out k hk⟩, fun he => by have := hlv k he.symm; omega⟩
    case aF => exact fun k hk => ⟨Nat.lt_of_lt_of_le HS.out.lt (Nat.le_trans HB.out.size hk), HP.out k (Nat.le_trans HB.out.size hk)⟩
    case aS => exact Nat.lt_of_lt_of_le HS.out.lt HB.out.size
    intro v13 w13 ho hb hg hat
    obtain ⟨A13, c13, e13⟩ := Kd.S_slice ho
    rw [List.length_append, List.length_singleton] at e13
    subst e13
    have hsv : ∀ k, v.ownBlock = some k → s + 1 ≤ k := Kd.S_base HS.out.row
    have HC13 := Aside0.mk (blk_grown (HS.out.below HB.out).cell hg (by intro he; have := hsv s he.symm; omega))
    have HBK1 := Aside0.mk (blk_grown HBK.out hg (by intro he; have := hlv gb he.symm; have := GB.out; omega))
    have HR13 := Aside0.mk ho
    have HK13 := Aside0.mk (KeptB.of_grown hg (KeptB.of_below HB.out (shows s v)) (fun k hk => Or.inl (Or.inr hk.symm)))
    have HA13 := Aside0.mk (show (Value.slice A13 (L.length + 1) c13).ownBlock = v.ownBlock ∨ ∃ b, (Value.slice A13 (L.length + 1) c13).ownBlock = some b ∧ w.heap.size ≤ b by
      rcases hat with hat | ⟨b, e, hle⟩
      · exact Or.inl hat
      · exact Or.inr ⟨b, e, Nat.le_trans HB.out.size hle⟩)
    clear ho hb hg hat hsv hlv HBK HB HO10
    refine hK.out _ _ ⟨(blk_cell HC13.out 0).trans rfl, (blk_cell HBK1.out 0).trans rfl, (blk_cell HBK1.out 1).trans rfl⟩ (fun hHeld => ?_)
    clear hK K
    refine norm_ (a' := ?_) ?_ ?_
    rotate_left
    · show Act.put _ (some 13) _ = _
      simp only [Act.put, List.setIfInBounds_toArray, List.set_cons_zero, List.set_cons_succ, i64_w, i32_w]
      rfl
    have hcx := (blk_cell HC13.out 0).trans rfl
    have hfx := blk_frozen HC13.out 0
    refine last_ (i := 9) (N := none) #[true, true, true, true, true, true, true, true, true, true] rfl rfl (one_of HT_.out (by kernel_rfl)) (by decide) (fun K hK => ?_)
    refine skip_ (w1 := ?_) (by rfl) rfl ?_ ?_
    rotate_left
    · go_simp
      rfl
    refine hK.out _ _ ?_
    clear hK K
    refine done_ (done_of HT_.out (by kernel_rfl)) ?_
    go_wp2
    go_end0
    have hR2 := Kd.S_far (p := ⟨s, 0, none⟩) HR13.out (fun k hk => Nat.ne_of_gt hk.1) (.slice A13 (L.length + 1) c13)
    exact ⟨_, _, rfl, ⟨(blk_set HC13.out 0 _).trans rfl, hR2⟩, HK13.out.setCell (Or.inl (Or.inl rfl)) _, HA13.out⟩
  · skip
    refine Kd.R_lit_step (w0 := w) (Kd.int .u8) w.heap.size 5 ?hg (N := 8) ?hd (xs := ([] : List Int)) (inner := []) (ok := fun k => w.heap.size ≤ k) (okp := fun _ => False) ?hr ?hp (fun _ hk => hk.elim) ?hf HB.out HB.out.size (by simp) ?_
    case hd => rfl
    case hg => rfl
    case hr => first | (go_simp; done) | (go_simp; rfl)
    case hp => exact (Reps.none _ _)
    case hf => exact HB.out.size
    intro v8 w8 ho8 hb8 hg8 hnew8
    have HB2 := Aside0.mk hb8
    have HBK2 := Aside0.mk (blk_grown HBK.out hg8 (by simp))
    have HN8 := Aside0.mk (show some gb ≠ v8.ownBlock by obtain ⟨b, e, hle⟩ := hnew8; rw [e]; intro h; injection h with h; have := blk_lt HBK.out; omega)
    have HO8 := Aside0.mk ho8
    clear ho8 hb8 hg8 hnew8 HB HBK
    have HB := HB2
    have HBK := HBK2
    clear HB2 HBK2
    refine hK.out _ _ ⟨(blk_cell (HS.out.below HB.out).cell 0).trans rfl, (blk_cell HBK.out 0).trans rfl, (blk_cell HBK.out 1).trans rfl⟩ (fun hHeld => ?_)
    clear hK K
    refine norm_ (a' := ?_) ?_ ?_
    rotate_left
    · show Act.put _ (some 8) _ = _
      simp only [Act.put, List.setIfInBounds_toArray, List.set_cons_zero, List.set_cons_succ, i64_w, i32_w]
      rfl
    refine one_ (i := 2) (N := (some 7)) #[true, true, true, true, true, false, false, false, false, false] rfl rfl (one_of HT_.out (by kernel_rfl)) (by decide) (fun K hK => ?_)
    refine goes_ Tryd.func73 (by kernel_rfl) rfl #[.agg #[.int .u64 lv, .int .u64 ix]] (by rfl) rfl rfl (by (try simp only [List.map_toArray, List.map_cons, List.map_nil]); first | done | rfl) ?_
    with_reducible refine (impl_fromNode.calls lv ix lv ix _ rfl).mono ?_
    rintro e6 w6 ⟨rfl, hb6⟩
    refine ⟨_, rfl, ?_⟩
    have HB1 := Aside0.mk (below_step HB.out hb6)
    have HBK1 := Aside0.mk (blk_below HBK.out hb6)
    have HO81 := Aside0.mk (Kd.R_below HO8.out hb6)
    clear hb6 HB HBK HO8
    have HB := HB1
    have HBK := HBK1
    have HO8 := HO81
    clear HB1 HBK1 HO81
    refine hK.out _ _ ⟨(blk_cell (HS.out.below HB.out).cell 0).trans rfl, (blk_cell HBK.out 0).trans rfl, (blk_cell HBK.out 1).trans rfl⟩ (fun hHeld => ?_)
    clear hK K
    refine norm_ (a' := ?_) ?_ ?_
    rotate_left
    · show Act.put _ (some 7) _ = _
      simp only [Act.put, List.setIfInBounds_toArray, List.set_cons_zero, List.set_cons_succ, i64_w, i32_w]
      rfl
    refine one_ (i := 5) (N := (some 10)) #[true, true, true, true, true, true, false, false, false, false] rfl rfl (one_of HT_.out (by kernel_rfl)) (by decide) (fun K hK => ?_)
    refine Kd.R_append_rows_step (Kd.int .u8) (w0 := w) w.heap.size (by rfl) (.tmp 8) (.tmp 9) 42 5 (.int .u8 0) 1 rfl Tryd.underlying42 info5 rfl (by decide) (by omega) v8 [] l _ _ _ (fun k => w.heap.size ≤ k) (fun _ => False) rfl rfl HO8.out (Kd.C_below HC.out HB.out) (fun _ _ h => h) (fun _ h => h.elim) (fun k hk => Nat.le_trans HB.out.size hk) HB.out HB.out.size (by simp; omega) ?_
    intro v10 w10 ho hb hg hat
    rw [List.nil_append] at ho
    obtain ⟨A10, c10, rfl⟩ := Kd.R_slice ho
    have HBK1 := Aside0.mk (blk_grown HBK.out hg HN8.out)
    have HO10 := Aside0.mk ho
    have HB1 := Aside0.mk hb
    clear ho hb hg hat HBK HB HO8 HN8
    have HBK := HBK1
    have HB := HB1
    clear HBK1 HB1
    refine hK.out _ _ ⟨(blk_cell (HS.out.below HB.out).cell 0).trans rfl, (blk_cell HBK.out 0).trans rfl, (blk_cell HBK.out 1).trans rfl⟩ (fun hHeld => ?_)
    clear hK K
    refine norm_ (a' := ?_) ?_ ?_
    rotate_left
    · show Act.put _ (some 10) _ = _
      simp only [Act.put, List.setIfInBounds_toArray, List.set_cons_zero, List.set_cons_succ, i64_w, i32_w]
      rfl
    refine pure_ (i := 6) (N := (some 11)) (v := ?_) (a' := ?_) #[true, true, true, true, true, true, true, false, false, false] rfl rfl (any_of HT_.out (by kernel_rfl)) (fun _ _ _ h => h) (Or.inl ⟨by rfl, ?_⟩) ?_ ?_
    rotate_left
    · intro w'
      go_simp
      with_reducible rfl
    rotate_left
    · simp only [Act.put, List.setIfInBounds_toArray, List.set_cons_zero, List.set_cons_succ, i64_w, i32_w]
      rfl
    refine one_ (i := 7) (N := (some 12)) #[true, true, true, true, true, true, true, true, false, false] rfl rfl (one_of HT_.out (by kernel_rfl)) (by decide) (fun K hK => ?_)
    refine value_ (w1 := w10.alloc (.cells #[.int .u64 lv, .int .u64 ix, .slice A10 l.length c10] 88)) (v := .slice (some ⟨w10.heap.size, 0, none⟩) 1 1) (by rfl) rfl (by first | (go_simp; done) | (go_simp; rfl)) ?_
    refine hK.out _ _ ⟨(blk_cell (blk_alloc (HS.out.below HB.out).cell _) 0).trans rfl, (blk_cell (blk_alloc HBK.out _) 0).trans rfl, (blk_cell (blk_alloc HBK.out _) 1).trans rfl⟩ (fun hHeld => ?_)
    clear hK K
    refine norm_ (a' := ?_) ?_ ?_
    rotate_left
    · show Act.put _ (some 12) _ = _
      simp only [Act.put, List.setIfInBounds_toArray, List.set_cons_zero, List.set_cons_succ, i64_w, i32_w]
      rfl
    refine one_ (i := 8) (N := (some 13)) #[true, true, true, true, true, true, true, true, true, false] rfl rfl (one_of HT_.out (by kernel_rfl)) (by decide) (fun K hK => ?_)
    have hlv : ∀ k, v.ownBlock = some k → k < w.heap.size := Kd.S_lt HS.out.row
    refine Kd.S_append_step k88 (w0 := w10) (s + 1) (by rfl) (.tmp 5) (.tmp 12) 43 88 (.agg #[.int .u64 0, .int .u64 0, .slice none 0 0]) 40 rfl Tryd.underlying43 info88 rfl (by decide) (by omega) v L ⟨⟨lv, ix⟩, l⟩ [.int .u64 lv, .int .u64 ix, .slice A10 l.length c10] (fun k => s < k ∧ P k) (fun k => w.heap.size ≤ k) rfl rfl ?aP ?aK ?aF (Kd.S_mono (Kd.S_below (Kd.S_bound HS.out.row) HB.out) (fun k hk => ⟨hk.1, Nat.not_le.mpr hk.2.2.1⟩)) (Below.refl _ _) ?aS (by omega) ?_
    case aP => exact k88_mkM _ _ _ ⟨⟨lv, ix⟩, l⟩ (Kd.R_lower HO10.out HS.out.lt)
    case aK => exact fun k hk => ⟨⟨Nat.lt_of_lt_of_le HS.out.lt hk, HP.out k hk⟩, fun he => by have := hlv k he.symm; omega⟩
    case aF => exact fun k hk => ⟨Nat.lt_of_lt_of_le HS.out.lt (Nat.le_trans HB.out.size hk), HP.out k (Nat.le_trans HB.out.size hk)⟩
    case aS => exact Nat.lt_of_lt_of_le HS.out.lt HB.out.size
    intro v13 w13 ho hb hg hat
    obtain ⟨A13, c13, e13⟩ := Kd.S_slice ho
    rw [List.length_append, List.length_singleton] at e13
    subst e13
    have hsv : ∀ k, v.ownBlock = some k → s + 1 ≤ k := Kd.S_base HS.out.row
    have HC13 := Aside0.mk (blk_grown (HS.out.below HB.out).cell hg (by intro he; have := hsv s he.symm; omega))
    have HBK1 := Aside0.mk (blk_grown HBK.out hg (by intro he; have := hlv gb he.symm; have := GB.out; omega))
    have HR13 := Aside0.mk ho
    have HK13 := Aside0.mk (KeptB.of_grown hg (KeptB.of_below HB.out (shows s v)) (fun k hk => Or.inl (Or.inr hk.symm)))
    have HA13 := Aside0.mk (show (Value.slice A13 (L.length + 1) c13).ownBlock = v.ownBlock ∨ ∃ b, (Value.slice A13 (L.length + 1) c13).ownBlock = some b ∧ w.heap.size ≤ b by
      rcases hat with hat | ⟨b, e, hle⟩
      · exact Or.inl hat
      · exact Or.inr ⟨b, e, Nat.le_trans HB.out.size hle⟩)
    clear ho hb hg hat hsv hlv HBK HB HO10
    refine hK.out _ _ ⟨(blk_cell HC13.out 0).trans rfl, (blk_cell HBK1.out 0).trans rfl, (blk_cell HBK1.out 1).trans rfl⟩ (fun hHeld => ?_)
    clear hK K
    refine norm_ (a' := ?_) ?_ ?_
    rotate_left
    · show Act.put _ (some 13) _ = _
      simp only [Act.put, List.setIfInBounds_toArray, List.set_cons_zero, List.set_cons_succ, i64_w, i32_w]
      rfl
    have hcx := (blk_cell HC13.out 0).trans rfl
    have hfx := blk_frozen HC13.out 0
    refine last_ (i := 9) (N := none) #[true, true, true, true, true, true, true, true, true, true] rfl rfl (one_of HT_.out (by kernel_rfl)) (by decide) (fun K hK => ?_)
    refine skip_ (w1 := ?_) (by rfl) rfl ?_ ?_
    rotate_left
    · go_simp
      rfl
    refine hK.out _ _ ?_
    clear hK K
    refine done_ (done_of HT_.out (by kernel_rfl)) ?_
    go_wp2
    go_end0
    have hR2 := Kd.S_far (p := ⟨s, 0, none⟩) HR13.out (fun k hk => Nat.ne_of_gt hk.1) (.slice A13 (L.length + 1) c13)
    exact ⟨_, _, rfl, ⟨(blk_set HC13.out 0 _).trans rfl, hR2⟩, HK13.out.setCell (Or.inl (Or.inl rfl)) _, HA13.out⟩
theorem impl_Append_1.ok : VisOk 90 := ⟨⟨_, Tryd.func90, rfl, rfl⟩, fun lv ix A c l s P v L w h1 h2 h3 h4 h5 h6 => impl_Append_1.calls lv ix A c l s P v L w h1 h2 h3 h4 h5 h6⟩
set_option maxHeartbeats 8000000 in
theorem compact_Range_Begin.calls (br bf : Nat) (b e : Int) (v : Value) (w : World) (hR : w.heap[br]? = some (.cells (rngCells bf b e v) 167 (0, 0))) :
    Calls Tryd.prog 122 #[.pointer (some ⟨br, 0, none⟩)] w fun e' w' => e' = .returned (.int .u64 b) ∧ Below w.heap.size w w' := by
  have hc1 : w.cell? ⟨br, 1, none⟩ = some (.int .u64 b) := (blk_cell hR 1).trans rfl
  have HB := Aside0.mk (Below.refl w.heap.size w)
  go_enter Tryd.func122, Tryd.ntmps122
  go_wp2
  go_ret
  exact ⟨rfl, (by repeat (first | (with_reducible first | exact HB.out | apply below_alloc | apply pw_below_drewN | apply below_drew1) | exact HB.out))⟩
set_option maxHeartbeats 8000000 in
theorem compact_Range_End.calls (br bf : Nat) (b e : Int) (v : Value) (w : World) (hR : w.heap[br]? = some (.cells (rngCells bf b e v) 167 (0, 0))) :
    Calls Tryd.prog 123 #[.pointer (some ⟨br, 0, none⟩)] w fun e' w' => e' = .returned (.int .u64 e) ∧ Below w.heap.size w w' := by
  have hc1 : w.cell? ⟨br, 2, none⟩ = some (.int .u64 e) := (blk_cell hR 2).trans rfl
  have HB := Aside0.mk (Below.refl w.heap.size w)
  go_enter Tryd.func123, Tryd.ntmps123
  go_wp2
  go_ret
  exact ⟨rfl, (by repeat (first | (with_reducible first | exact HB.out | apply below_alloc | apply pw_below_drewN | apply below_drew1) | exact HB.out))⟩
set_option maxHeartbeats 8000000 in
theorem compact_Range_Hashes.calls (br bf : Nat) (b e : Int) (A : Option Addr) (n c : Nat) (w : World) (hR : w.heap[br]? = some (.cells (rngCells bf b e (.slice A n c)) 167 (0, 0))) :
    Calls Tryd.prog 124 #[.pointer (some ⟨br, 0, none⟩)] w fun e' w' => e' = .returned (.slice A n c) ∧ Below w.heap.size w w' := by
  have hc1 : w.cell? ⟨br, 3, none⟩ = some (.slice A n c) := (blk_cell hR 3).trans rfl
  have HB := Aside0.mk (Below.refl w.heap.size w)
  go_enter Tryd.func124, Tryd.ntmps124
  go_wp2
  go_ret
  exact ⟨rfl, (by repeat (first | (with_reducible first | exact HB.out | apply below_alloc | apply pw_below_drewN | apply below_drew1) | exact HB.out))⟩
set_option maxHeartbeats 8000000 in
set_option maxRecDepth 100000 in
theorem impl_fromRange.calls (k br bf : Nat) (b e : Int) (A : Option Addr) (c : Nat) (T t : List (List Int)) (w : World) (hR : w.heap[br]? = some (.cells (rngCells bf b e (.slice A T.length c)) 167 (0, 0))) (hT : Kd.C (Kd.slice 5 (Kd.int .u8)) w A T.length T) (hc : T.length ≤ c) (ht : impl_texts.f k T = some t) :
    Calls Tryd.prog 91 #[.pointer (some ⟨br, 0, none⟩)] w fun e' w' => ∃ v : Value, e' = .returned (.agg #[.int .u64 b, .int .u64 e, v]) ∧ Kd.S (Kd.slice 5 (Kd.int .u8)) 42 w' w.heap.size (fun _ => True) v t ∧ Below w.heap.size w w' := by
  have hu40 := Tryd.underlying40
  have HR := Aside0.mk hR
  have HT := Aside0.mk hT
  have HTX := Aside0.mk ht
  have HB := Aside0.mk (Below.refl w.heap.size w)
  clear hR hT ht
  go_enter Tryd.func91, Tryd.ntmps91
  go_wp2_with (first | ((with_reducible refine gate_dst (N := 2) rfl ?_); refine box_event ?hg (N := 2) ?hd (cs := #[.int .u64 0, .int .u64 0, .slice none 0 0]) (t := 40) ?hr ?_; (case hd => rfl); (case hg => rfl); (case hr => first | (go_simp; done) | (go_simp; rfl)); intro gb hg w4 hbox hb; (have BK := Aside0.mk hbox); (have HB1 := Aside0.mk (below_step HB.out hb)); (have GB := Aside0.mk (show w.heap.size ≤ gb by rw [hg]; exact HB.out.size)); (have HR1 := Aside0.mk (blk_below HR.out hb)); (have HT1 := Aside0.mk (Kd.C_below HT.out hb)); clear hbox hb hg HB HR HT; have HB := HB1; have HR := HR1; have HT := HT1; clear HB1 HR1 HT1) | (go_at_call 122; (with_reducible refine (compact_Range_Begin.calls br bf b e _ _ HR.out).mono ?_); rintro e5 w5 ⟨rfl, hb⟩; (have BK1 := Aside0.mk (blk_below BK.out hb)); (have HB1 := Aside0.mk (below_step HB.out hb)); (have HR1 := Aside0.mk (blk_below HR.out hb)); (have HT1 := Aside0.mk (Kd.C_below HT.out hb)); clear hb HB HR HT BK; have HB := HB1; have HR := HR1; have HT := HT1; have BK := BK1; clear HB1 HR1 HT1 BK1) | (go_at_call 123; (with_reducible refine (compact_Range_End.calls br bf b e _ _ HR.out).mono ?_); rintro e6 w6 ⟨rfl, hb⟩; (have BK1 := Aside0.mk (blk_below BK.out hb)); (have HB1 := Aside0.mk (below_step HB.out hb)); (have HR1 := Aside0.mk (blk_below HR.out hb)); (have HT1 := Aside0.mk (Kd.C_below HT.out hb)); clear hb HB HR HT BK; have HB := HB1; have HR := HR1; have HT := HT1; have BK := BK1; clear HB1 HR1 HT1 BK1) | (go_at_call 124; (with_reducible refine (compact_Range_Hashes.calls br bf b e A T.length c _ HR.out).mono ?_); rintro e7 w7 ⟨rfl, hb⟩; (have BK1 := Aside0.mk (blk_below BK.out hb)); (have HB1 := Aside0.mk (below_step HB.out hb)); (have HR1 := Aside0.mk (blk_below HR.out hb)); (have HT1 := Aside0.mk (Kd.C_below HT.out hb)); clear hb HB HR HT BK; have HB := HB1; have HR := HR1; have HT := HT1; have BK := BK1; clear HB1 HR1 HT1 BK1) | (go_at_call 70; (with_reducible refine (impl_texts.calls k A c T t _ HT.out hc HTX.out).mono ?_); rintro e8 w8 ⟨v8, rfl, ho, hb⟩; (obtain ⟨A8, c8, rfl⟩ := Kd.S_slice ho); (have BK1 := Aside0.mk (blk_below BK.out hb)); (have HO1 := Aside0.mk (Kd.S_lower ho HB.out.size)); (have HB1 := Aside0.mk (below_step HB.out hb)); clear ho hb HB HR HT BK; have HB := HB1; have BK := BK1; clear HB1 BK1; have hcz0 := (blk_cell BK.out 0).trans rfl; have hcz1 := (blk_cell BK.out 1).trans rfl; have hcz2 := (blk_cell BK.out 2).trans rfl; have hfz0 := blk_frozen BK.out 0; have hfz1 := blk_frozen BK.out 1; have hfz2 := blk_frozen BK.out 2))
  refine bodyPost_ret (results_cell_row rfl _ _ gb 40 #[.int .u64 b, .int .u64 e, .slice A8 t.length c8] (0, 0) _ rfl (((blk_set (blk_set (blk_set BK.out 0 _) 1 _) 2 _)).trans rfl) Tryd.underlying40 rfl (by kernel_rfl)) rfl ?_
  exact ⟨_, rfl, Kd.S_mono (Kd.S_far (p := ⟨gb, 2, none⟩) (Kd.S_far (p := ⟨gb, 1, none⟩) (Kd.S_far (p := ⟨gb, 0, none⟩) (Kd.S_types HO1.out BK.out (by decide)) (fun _ hk => hk.2) _) (fun _ hk => hk.2) _) (fun _ hk => hk.2) _) (fun _ _ => trivial), ((HB.out.setCell GB.out _).setCell GB.out _).setCell GB.out _⟩
def app1 (k : Nat) (h0 h1 h2 h3 h4 h5 : Int) (b : Int) (e : Nat) (T : List (List Int)) (x : List Int) (L : List S88) : Option (List (List Int) × List S88) :=
  (compact_getMergePath.f b (e : Int) ((e : Int) + 1)).bind fun p =>
    if (0 ≤ p.1 ∧ p.1 ≤ 64 ∧ 0 ≤ p.2 ∧ p.2 ≤ 64) ∧ e + 1 < 18446744073709551616 ∧ T.length ≤ 1000000 ∧ L.length < 800000 ∧ x.length < 140737488355328 then
      (bits_OnesCount64.f (Go.bits .and .u64 ((e / 2 ^ p.1.toNat : Nat) : Int) ((2 ^ ((if p.2.toNat < p.1.toNat then p.1.toNat else p.2.toNat) - p.1.toNat) - 1 : Nat) : Int))).bind fun o =>
        if 0 ≤ o ∧ o.toNat ≤ T.length ∧ (if p.2.toNat < p.1.toNat then p.1.toNat else p.2.toNat) - p.1.toNat ≤ o.toNat then
          (apl k h0 h1 h2 h3 h4 h5 T [] ((if p.2.toNat < p.1.toNat then p.1.toNat else p.2.toNat) - p.1.toNat) p.1.toNat T.length 0 (e / 2 ^ p.1.toNat) x (L ++ [⟨⟨0, (e : Int)⟩, x⟩])).bind fun r => some (T.take r.2.1 ++ [r.1] ++ ([] : List (List Int)).drop r.2.2.1, r.2.2.2)
        else none
    else none
theorem app1_mono (k : Nat) (h0 h1 h2 h3 h4 h5 b : Int) (e : Nat) (T : List (List Int)) (x : List Int) (L : List S88) : LeO (app1 k h0 h1 h2 h3 h4 h5 b e T x L) (app1 (k + 1) h0 h1 h2 h3 h4 h5 b e T x L) :=
  LeO.bind (LeO.refl _) fun _ => LeO.ite (LeO.bind (LeO.refl _) fun _ => LeO.ite (LeO.bind (apl_mono _ _ _ _ _ _ _ _ _ _ _ _ _ _ _ _) fun _ => LeO.refl _) (LeO.none _)) (LeO.none _)
def appN (k : Nat) (h0 h1 h2 h3 h4 h5 : Int) (b : Int) : List (List Int) → Nat → List (List Int) → List S88 → Option (List (List Int) × List S88)
  | [], _, T, L => some (T, L)
  | x :: u, e, T, L => (app1 k h0 h1 h2 h3 h4 h5 b e T x L).bind fun r => appN k h0 h1 h2 h3 h4 h5 b u (e + 1) r.1 r.2
theorem appN_mono (k : Nat) (h0 h1 h2 h3 h4 h5 b : Int) : ∀ u e T L, LeO (appN k h0 h1 h2 h3 h4 h5 b u e T L) (appN (k + 1) h0 h1 h2 h3 h4 h5 b u e T L)
  | [], _, _, _ => LeO.refl _
  | _ :: u, _, _, _ => LeO.bind (app1_mono _ _ _ _ _ _ _ _ _ _ _ _) fun _ => appN_mono k h0 h1 h2 h3 h4 h5 b u _ _ _
theorem app1_inv {k : Nat} {h0 h1 h2 h3 h4 h5 b : Int} {e : Nat} {T : List (List Int)} {x : List Int} {L : List S88} {r : List (List Int) × List S88} (h : app1 k h0 h1 h2 h3 h4 h5 b e T x L = some r) :
    ∃ (low hi0 hi x0 ones : Nat) (T' : List Int) (i1 i2 : Nat), compact_getMergePath.f b (e : Int) ((e : Int) + 1) = some ((low : Int), (hi0 : Int)) ∧ low ≤ 64 ∧ hi0 ≤ 64 ∧ hi = (if hi0 < low then low else hi0) ∧ e + 1 < 18446744073709551616 ∧ x0 = e / 2 ^ low ∧ bits_OnesCount64.f (Go.bits .and .u64 (x0 : Int) ((2 ^ (hi - low) - 1 : Nat) : Int)) = some (ones : Int) ∧ ones ≤ T.length ∧ (hi - low : Nat) ≤ ones ∧ T.length ≤ 1000000 ∧ L.length < 800000 ∧ x.length < 140737488355328 ∧ apl k h0 h1 h2 h3 h4 h5 T [] (hi - low) low T.length 0 x0 x (L ++ [⟨⟨0, (e : Int)⟩, x⟩]) = some (T', i1, i2, r.2) ∧ r.1 = T.take i1 ++ [T'] ++ ([] : List (List Int)).drop i2 := by
  unfold app1 at h
  obtain ⟨⟨p1, p2⟩, hp, h⟩ := Option.bind_eq_some_iff.mp h
  by_cases c : (0 ≤ p1 ∧ p1 ≤ 64 ∧ 0 ≤ p2 ∧ p2 ≤ 64) ∧ e + 1 < 18446744073709551616 ∧ T.length ≤ 1000000 ∧ L.length < 800000 ∧ x.length < 140737488355328
  case neg => rw [if_neg c] at h; cases h
  rw [if_pos c] at h
  obtain ⟨o, ho, h⟩ := Option.bind_eq_some_iff.mp h
  obtain ⟨⟨q1, q2, q3, q4⟩, c1, c2, c3, c4⟩ := c
  obtain ⟨low, rfl⟩ := Int.eq_ofNat_of_zero_le q1
  obtain ⟨hi0, rfl⟩ := Int.eq_ofNat_of_zero_le q3
  simp only [Int.toNat_natCast] at h ho
  generalize hhi : (if hi0 < low then low else hi0) = hi at h ho
  by_cases d : 0 ≤ o ∧ o.toNat ≤ T.length ∧ hi - low ≤ o.toNat
  case neg => rw [if_neg d] at h; cases h
  rw [if_pos d] at h
  obtain ⟨⟨T', i1, i2, L'⟩, ha, h⟩ := Option.bind_eq_some_iff.mp h
  simp only [Option.some.injEq] at h
  subst h
  obtain ⟨d1, d2, d3⟩ := d
  obtain ⟨ones, rfl⟩ := Int.eq_ofNat_of_zero_le d1
  rw [Int.toNat_natCast] at d2 d3
  exact ⟨low, hi0, hi, _, ones, T', i1, i2, hp, by omega, by omega, hhi.symm, c1, rfl, ho, d2, d3, c2, c3, c4, ha, rfl⟩
def impl_Append.f (k : Nat) (h0 h1 h2 h3 h4 h5 : Int) (b e : Int) (l1 l2 : List (List Int)) : Option (Int × Int × List (List Int) × List S88 × Bool) :=
  (impl_texts.f k l1).bind fun t => (compact_RangeSize.f b e).bind fun sz => if b ≤ e ∧ 0 ≤ e ∧ (t.length : Int) = sz then (impl_texts.f k l2).bind fun u => if u.length < 1000000 then (appN k h0 h1 h2 h3 h4 h5 b u e.toNat t []).bind fun r => (impl_texts.f k r.1).bind fun z => some (b, ((e.toNat + u.length : Nat) : Int), z, r.2, true) else none else none
theorem impl_Append.mono (h0 h1 h2 h3 h4 h5 b e : Int) (l1 l2 : List (List Int)) : ∀ k, LeO (impl_Append.f k h0 h1 h2 h3 h4 h5 b e l1 l2) (impl_Append.f (k + 1) h0 h1 h2 h3 h4 h5 b e l1 l2) := by
  intro k
  unfold impl_Append.f
  refine LeO.bind (impl_texts.mono _ _) fun t => LeO.bind (LeO.refl _) fun sz => LeO.ite (LeO.bind (impl_texts.mono _ _) fun u => LeO.ite (LeO.bind (appN_mono _ _ _ _ _ _ _ _ _ _ _ _) fun r => LeO.bind (impl_texts.mono _ _) fun z => LeO.refl _) (LeO.none _)) (LeO.none _)
def impl_Append.T2 : Bool × List (List Nat × List Nat) := (true, [([], []), ([], []), ([1], [1]), ([], []), ([3], [3]), ([], []), ([5], [5]), ([6], [6]), ([0, 2, 4, 7, 7], [0, 2, 4, 7]), ([8], [8]), ([9], [9]), ([9], [9]), ([10, 8, 0, 1, 2, 3, 4, 5, 6, 7, 8, 9, 10], [10]), ([11, 12, 0, 1, 2, 3, 4, 5, 6, 7, 8, 9, 10, 11, 12], [11])])
def impl_Append.B2 : List Nat := [0, 0, 2, 0, 8, 0, 32, 96, 255, 511, 1023, 1023, 2047, 8191]
theorem impl_Append.tab2 : rtab .any (opsOf Tryd.f38 2) = impl_Append.T2 := by kernel_rfl
theorem impl_Append.bits2 : waitsOk impl_Append.T2.2 impl_Append.B2 = true := by kernel_rfl
def impl_Append.T13 : Bool × List (List Nat × List Nat) := (true, [([], []), ([0], [0]), ([], []), ([1, 1, 0, 1], [1]), ([2, 3, 0, 1, 2, 3], [2]), ([4, 0, 1, 2, 3, 4], [])])
def impl_Append.B13 : List Nat := [0, 1, 0, 3, 15, 31]
theorem impl_Append.tab13 : rtab .any (opsOf Tryd.f38 13) = impl_Append.T13 := by kernel_rfl
theorem impl_Append.bits13 : waitsOk impl_Append.T13.2 impl_Append.B13 = true := by kernel_rfl
set_option maxHeartbeats 8000000 in
set_option maxRecDepth 100000 in
theorem impl_Append.calls (k : Nat) (a0_0 : Int) (a0_1 : Int) (a0_2 : Int) (a0_3 : Int) (a0_4 : Int) (a0_5 : Int) (a1_0 : Int) (a1_1 : Int) (A1_2 : Option Addr) (c1_2 : Nat) (l1_2 : List (List Int)) (A2 : Option Addr) (c2 : Nat) (l2 : List (List Int)) (r1_0 : Int) (r1_1 : Int) (r1_2 : List (List Int)) (r2 : List S88) (r3 : Bool) (w : World) (hGT : GlobT w) (hr1_2 : Kd.C (Kd.slice 5 (Kd.int .u8)) w A1_2 l1_2.length l1_2) (hc1_2 : l1_2.length ≤ c1_2) (hr2 : Kd.C (Kd.slice 5 (Kd.int .u8)) w A2 l2.length l2) (hc2 : l2.length ≤ c2) (h : impl_Append.f k a0_0 a0_1 a0_2 a0_3 a0_4 a0_5 a1_0 a1_1 l1_2 l2 = some (r1_0, r1_1, r1_2, r2, r3)) :
    Calls Tryd.prog 38 #[.agg #[.int .i64 a0_0, .int .i64 a0_1, .int .i64 a0_2, .int .u64 a0_3, .int .u64 a0_4, .int .u64 a0_5], .agg #[.int .u64 a1_0, .int .u64 a1_1, .slice A1_2 l1_2.length c1_2], .slice A2 l2.length c2] w fun e w' => ∃ v0_ v1_ : Value, e = .returned (.tuple #[.agg #[.int .u64 r1_0, .int .u64 r1_1, v0_], v1_, .bool r3]) ∧ Kd.V (Kd.slice 5 (Kd.int .u8)) 42 w' w.heap.size (fun k_ => w.heap.size ≤ k_) v0_ r1_2 ∧ Kd.V k88 88 w' w.heap.size (fun k_ => w.heap.size ≤ k_) v1_ r2 ∧ Below w.heap.size w w' := by
  have hu37 := Tryd.underlying37
  have hu40 := Tryd.underlying40
  have hu117 := Tryd.underlying117
  have hu120 := Tryd.underlying120
  have hu38 := Tryd.underlying38
  have HR1 := Aside0.mk hr1_2
  have HR2 := Aside0.mk hr2
  have HB := Aside0.mk (Below.refl w.heap.size w)
  clear hr1_2 hr2
  unfold impl_Append.f at h
  replace h := Option.bind_eq_some_iff.mp h
  obtain ⟨t, hA1, H⟩ := h
  replace H := Option.bind_eq_some_iff.mp H
  obtain ⟨sz, hA2, H⟩ := H
  by_cases hsz : a1_0 ≤ a1_1 ∧ 0 ≤ a1_1 ∧ (t.length : Int) = sz
  case neg => rw [if_neg hsz] at H; cases H
  rw [if_pos hsz] at H
  replace H := Option.bind_eq_some_iff.mp H
  obtain ⟨u, hA3, H⟩ := H
  by_cases hul : u.length < 1000000
  case neg => rw [if_neg hul] at H; cases H
  rw [if_pos hul] at H
  replace H := Option.bind_eq_some_iff.mp H
  obtain ⟨⟨T', L'⟩, hA4, H⟩ := H
  replace H := Option.bind_eq_some_iff.mp H
  obtain ⟨z, hA5, H⟩ := H
  simp only [Option.some.injEq, Prod.mk.injEq] at H
  obtain ⟨rfl, rfl, rfl, rfl, rfl⟩ := H
  obtain ⟨en, hen, HEN⟩ : ∃ en : Nat, a1_1 = (en : Int) ∧ Aside0 (a1_1.toNat = en) := ⟨a1_1.toNat, by omega, ⟨rfl⟩⟩
  rw [HEN.out] at hA4 ⊢
  have hbe := hsz.1
  have hszl := hsz.2.2
  have A1 := Aside0.mk hA1
  have A2_ := Aside0.mk hA2
  have A3 := Aside0.mk hA3
  have A4 := Aside0.mk hA4
  have A5 := Aside0.mk hA5
  have HBE := Aside0.mk (And.intro hbe hszl)
  have HEN2 := Aside0.mk hen
  clear hA1 hA2 hA3 hA4 hA5 hsz hbe hszl hen
  go_enter Tryd.func38, Tryd.ntmps38
  go_wp2_with (first | ((with_reducible refine gate_dst (N := 3) rfl ?_); refine box_event ?hg (N := 3) ?hd (cs := #[.int .i64 a0_0, .int .i64 a0_1, .int .i64 a0_2, .int .u64 a0_3, .int .u64 a0_4, .int .u64 a0_5]) (t := 37) ?hr ?_; (case hd => rfl); (case hg => rfl); (case hr => first | (go_simp; done) | (go_simp; rfl)); intro gb3 hg w3 hbox hb; (have BK3 := Aside0.mk hbox); (have HB1 := Aside0.mk (below_step HB.out hb)); clear hbox hb hg HB; have HB := HB1; clear HB1) | ((with_reducible refine gate_dst (N := 4) rfl ?_); refine box_event ?hg (N := 4) ?hd (cs := #[.int .u64 a1_0, .int .u64 a1_1, .slice A1_2 l1_2.length c1_2]) (t := 40) ?hr ?_; (case hd => rfl); (case hg => rfl); (case hr => first | (go_simp; done) | (go_simp; rfl)); intro gb4 hg w4 hbox hb; (have BK4 := Aside0.mk hbox); (have BK31 := Aside0.mk (blk_below BK3.out hb)); (have HB1 := Aside0.mk (below_step HB.out hb)); clear hbox hb hg HB BK3; have HB := HB1; have BK3 := BK31; clear HB1 BK31) | ((with_reducible refine gate_dst (N := 6) rfl ?_); refine box_event ?hg (N := 6) ?hd (cs := #[.int .u64 0, .int .u64 0, .slice none 0 0]) (t := 40) ?hr ?_; (case hd => rfl); (case hg => rfl); (case hr => first | (go_simp; done) | (go_simp; rfl)); intro gb6 hg w6 hbox hb; (have BK6 := Aside0.mk hbox); (have BK31 := Aside0.mk (blk_below BK3.out hb)); (have BK41 := Aside0.mk (blk_below BK4.out hb)); (have G6 := Aside0.mk (show w.heap.size ≤ gb6 by rw [hg]; exact HB.out.size)); (have HB1 := Aside0.mk (below_step HB.out hb)); clear hbox hb hg HB BK3 BK4; have HB := HB1; have BK3 := BK31; have BK4 := BK41; clear HB1 BK31 BK41; have hc3_0 := (blk_cell BK3.out 0).trans rfl; have hc3_1 := (blk_cell BK3.out 1).trans rfl; have hc3_2 := (blk_cell BK3.out 2).trans rfl; have hc3_3 := (blk_cell BK3.out 3).trans rfl; have hc3_4 := (blk_cell BK3.out 4).trans rfl; have hc3_5 := (blk_cell BK3.out 5).trans rfl) | ((with_reducible refine gate_dst (N := 19) rfl ?_); refine box_event ?hg (N := 19) ?hd (cs := facCells a0_0 a0_1 a0_2 a0_3 a0_4 a0_5) (t := 117) ?hr ?_; (case hd => rfl); (case hg => rfl); (case hr => first | (go_simp; done) | (go_simp; rfl)); intro bf hg w7 hbox hb; clear hc3_0 hc3_1 hc3_2 hc3_3 hc3_4 hc3_5; (have BF := Aside0.mk hbox); (have BK41 := Aside0.mk (blk_below BK4.out hb)); (have BK61 := Aside0.mk (blk_below BK6.out hb)); (have HB1 := Aside0.mk (below_step HB.out hb)); (have GF := Aside0.mk (show w.heap.size ≤ bf by rw [hg]; exact HB.out.size)); clear hbox hb hg HB BK3 BK4 BK6; have HB := HB1; have BK4 := BK41; have BK6 := BK61; clear HB1 BK41 BK61))
  have BF1 := Aside0.mk (blk_drew BF.out)
  have BK41 := Aside0.mk (blk_drew BK4.out)
  have BK61 := Aside0.mk (blk_drew BK6.out)
  have HB1 := Aside0.mk (below_drew1 HB.out)
  clear BF BK4 BK6 HB
  have BF := BF1
  have BK4 := BK41
  have BK6 := BK61
  have HB := HB1
  clear BF1 BK41 BK61 HB1
  refine start_ (n := 14) (S := fun w' => w'.cell? ⟨gb4, 0, none⟩ = some (.int .u64 a1_0) ∧ w'.cell? ⟨gb4, 1, none⟩ = some (.int .u64 a1_1) ∧ w'.cell? ⟨gb4, 2, none⟩ = some (.slice A1_2 l1_2.length c1_2)) (ds := []) #[false, false, false, false, false, false, false, false, false, false, false, false, false, false] (by kernel_rfl) rfl rfl (⟨(blk_cell BK4.out 0).trans rfl, (blk_cell BK4.out 1).trans rfl, (blk_cell BK4.out 2).trans rfl⟩) (fun hHeld => ?_)
  refine with_tabW impl_Append.tab2 impl_Append.bits2 (fun HT_ HW_ => ?_)
  generalize w7.drew = w8 at BF BK4 BK6 HB hHeld ⊢
  refine pure_ (i := 0) (N := (some 21)) (v := ?_) (a' := ?_) #[true, false, false, false, false, false, false, false, false, false, false, false, false, false] rfl rfl (any_of HT_.out (by kernel_rfl)) (fun _ _ _ h => h) (Or.inl ⟨by rfl, ?_⟩) ?_ ?_
  rotate_left
  · intro w'
    go_simp
    with_reducible rfl
  rotate_left
  · simp only [Act.put, List.setIfInBounds_toArray, List.set_cons_zero, List.set_cons_succ, i64_w, i32_w]
    rfl
  refine pure_ (i := 1) (N := (some 22)) (v := ?_) (a' := ?_) #[true, true, false, false, false, false, false, false, false, false, false, false, false, false] rfl rfl (any_of HT_.out (by kernel_rfl)) (fun _ _ _ h => h) (Or.inl ⟨by rfl, ?_⟩) ?_ ?_
  rotate_left
  · intro w'
    go_simp
    with_reducible rfl
  rotate_left
  · simp only [Act.put, List.setIfInBounds_toArray, List.set_cons_zero, List.set_cons_succ, i64_w, i32_w]
    rfl
  refine take_ (i := 2) (N := (some 23)) (v := ?_) (a' := ?_) #[true, true, true, false, false, false, false, false, false, false, false, false, false, false] rfl rfl (take_ofW HT_.out HW_.out (by kernel_rfl)) (fun _ _ _ h => h) (Or.inl ⟨by rfl, ?_⟩) hHeld ?_ ?_
  rotate_left
  · rintro w' ⟨s0, s1, s2⟩
    go_simp
    with_reducible rfl
  rotate_left
  · simp only [Act.put, List.setIfInBounds_toArray, List.set_cons_zero, List.set_cons_succ, i64_w, i32_w]
    rfl
  refine pure_ (i := 3) (N := (some 24)) (v := ?_) (a' := ?_) #[true, true, true, true, false, false, false, false, false, false, false, false, false, false] rfl rfl (any_of HT_.out (by kernel_rfl)) (fun _ _ _ h => h) (Or.inl ⟨by rfl, ?_⟩) ?_ ?_
  rotate_left
  · intro w'
    go_simp
    with_reducible rfl
  rotate_left
  · simp only [Act.put, List.setIfInBounds_toArray, List.set_cons_zero, List.set_cons_succ, i64_w, i32_w]
    rfl
  refine take_ (i := 4) (N := (some 25)) (v := ?_) (a' := ?_) #[true, true, true, true, true, false, false, false, false, false, false, false, false, false] rfl rfl (take_ofW HT_.out HW_.out (by kernel_rfl)) (fun _ _ _ h => h) (Or.inl ⟨by rfl, ?_⟩) hHeld ?_ ?_
  rotate_left
  · rintro w' ⟨s0, s1, s2⟩
    go_simp
    with_reducible rfl
  rotate_left
  · simp only [Act.put, List.setIfInBounds_toArray, List.set_cons_zero, List.set_cons_succ, i64_w, i32_w]
    rfl
  refine pure_ (i := 5) (N := (some 26)) (v := ?_) (a' := ?_) #[true, true, true, true, true, true, false, false, false, false, false, false, false, false] rfl rfl (any_of HT_.out (by kernel_rfl)) (fun _ _ _ h => h) (Or.inl ⟨by rfl, ?_⟩) ?_ ?_
  rotate_left
  · intro w'
    go_simp
    with_reducible rfl
  rotate_left
  · simp only [Act.put, List.setIfInBounds_toArray, List.set_cons_zero, List.set_cons_succ, i64_w, i32_w]
    rfl
  refine take_ (i := 6) (N := (some 27)) (v := ?_) (a' := ?_) #[true, true, true, true, true, true, true, false, false, false, false, false, false, false] rfl rfl (take_ofW HT_.out HW_.out (by kernel_rfl)) (fun _ _ _ h => h) (Or.inl ⟨by rfl, ?_⟩) hHeld ?_ ?_
  rotate_left
  · rintro w' ⟨s0, s1, s2⟩
    go_simp
    with_reducible rfl
  rotate_left
  · simp only [Act.put, List.setIfInBounds_toArray, List.set_cons_zero, List.set_cons_succ, i64_w, i32_w]
    rfl
  refine one_ (i := 7) (N := (some 28)) #[true, true, true, true, true, true, true, true, false, false, false, false, false, false] rfl rfl (one_of HT_.out (by kernel_rfl)) (by decide) (fun K hK => ?_)
  refine goes_ Tryd.func70 (by kernel_rfl) rfl #[.slice A1_2 l1_2.length c1_2] (by rfl) rfl rfl (by (try simp only [List.map_toArray, List.map_cons, List.map_nil]); first | done | rfl) ?_
  with_reducible refine (impl_texts.calls k A1_2 c1_2 l1_2 t _ ?side1 hc1_2 A1.out).mono ?_
  case side1 => exact Kd.C_below HR1.out HB.out
  rintro e6 w9 ⟨v9, rfl, ho, hb⟩
  refine ⟨_, rfl, ?_⟩
  obtain ⟨A9, c9, rfl⟩ := Kd.S_slice ho
  have HO9 := Aside0.mk ho
  have Z8 := Aside0.mk (And.intro HB.out.size (And.intro (blk_lt BF.out) (And.intro (blk_lt BK6.out) hb.size)))
  have BF1 := Aside0.mk (blk_below BF.out hb)
  have BK41 := Aside0.mk (blk_below BK4.out hb)
  have BK61 := Aside0.mk (blk_below BK6.out hb)
  have HB1 := Aside0.mk (below_step HB.out hb)
  clear BF BK4 BK6 HB hb ho
  have BF := BF1
  have BK4 := BK41
  have BK6 := BK61
  have HB := HB1
  clear BF1 BK41 BK61 HB1
  refine hK.out _ _ ⟨(blk_cell BK4.out 0).trans rfl, (blk_cell BK4.out 1).trans rfl, (blk_cell BK4.out 2).trans rfl⟩ (fun hHeld => ?_)
  clear hK K
  refine norm_ (a' := ?_) ?_ ?_
  rotate_left
  · show Act.put _ (some 28) _ = _
    simp only [Act.put, List.setIfInBounds_toArray, List.set_cons_zero, List.set_cons_succ, i64_w, i32_w]
    rfl
  refine one_ (i := 8) (N := (some 29)) #[true, true, true, true, true, true, true, true, true, false, false, false, false, false] rfl rfl (one_of HT_.out (by kernel_rfl)) (by decide) (fun K hK => ?_)
  refine goes_ Tryd.func69 (by kernel_rfl) rfl #[.pointer (some ⟨bf, 0, none⟩), .int .u64 a1_0, .int .u64 a1_1, .slice A9 t.length c9] (by rfl) rfl rfl (by (try simp only [List.map_toArray, List.map_cons, List.map_nil]); first | done | rfl) ?_
  with_reducible refine (compact_RangeFactory_NewRange.calls ⟨bf, 0, none⟩ a1_0 a1_1 sz A9 t.length c9 HBE.out.1 A2_.out HBE.out.2 _).mono ?_
  rintro e6 w10 ⟨br, rfl, hbr, hge, hb⟩
  refine ⟨_, rfl, ?_⟩
  have Z9 := Aside0.mk (And.intro hge hb.size)
  have BR := Aside0.mk hbr
  have HO91 := Aside0.mk (Kd.S_below HO9.out hb)
  have BF1 := Aside0.mk (blk_below BF.out hb)
  have BK41 := Aside0.mk (blk_below BK4.out hb)
  have BK61 := Aside0.mk (blk_below BK6.out hb)
  have HB1 := Aside0.mk (below_step HB.out hb)
  clear BF BK4 BK6 HB hb hbr hge HO9
  have BF := BF1
  have BK4 := BK41
  have BK6 := BK61
  have HB := HB1
  have HO9 := HO91
  clear BF1 BK41 BK61 HB1 HO91
  refine hK.out _ _ ⟨(blk_cell BK4.out 0).trans rfl, (blk_cell BK4.out 1).trans rfl, (blk_cell BK4.out 2).trans rfl⟩ (fun hHeld => ?_)
  clear hK K
  refine norm_ (a' := ?_) ?_ ?_
  rotate_left
  · show Act.put _ (some 29) _ = _
    simp only [Act.put, List.setIfInBounds_toArray, List.set_cons_zero, List.set_cons_succ, i64_w, i32_w]
    rfl
  refine pure_ (i := 9) (N := (some 20)) (v := ?_) (a' := ?_) #[true, true, true, true, true, true, true, true, true, true, false, false, false, false] rfl rfl (any_of HT_.out (by kernel_rfl)) (fun _ _ _ h => h) (Or.inl ⟨by rfl, ?_⟩) ?_ ?_
  rotate_left
  · intro w'
    go_simp
    with_reducible rfl
  rotate_left
  · simp only [Act.put, List.setIfInBounds_toArray, List.set_cons_zero, List.set_cons_succ, i64_w, i32_w]
    rfl
  refine pure_ (i := 10) (N := (some 30)) (v := ?_) (a' := ?_) #[true, true, true, true, true, true, true, true, true, true, true, false, false, false] rfl rfl (any_of HT_.out (by kernel_rfl)) (fun _ _ _ h => h) (Or.inl ⟨by rfl, ?_⟩) ?_ ?_
  rotate_left
  · intro w'
    go_simp
    with_reducible rfl
  rotate_left
  · simp only [Act.put, List.setIfInBounds_toArray, List.set_cons_zero, List.set_cons_succ, i64_w, i32_w]
    rfl
  refine pure_ (i := 11) (N := (some 31)) (v := ?_) (a' := ?_) #[true, true, true, true, true, true, true, true, true, true, true, true, false, false] rfl rfl (any_of HT_.out (by kernel_rfl)) (fun _ _ _ h => h) (Or.inl ⟨by rfl, ?_⟩) ?_ ?_
  rotate_left
  · intro w'
    go_simp
    with_reducible rfl
  rotate_left
  · simp only [Act.put, List.setIfInBounds_toArray, List.set_cons_zero, List.set_cons_succ, i64_w, i32_w]
    rfl
  refine pure_ (i := 12) (N := (some 10)) (v := ?_) (a' := ?_) #[true, true, true, true, true, true, true, true, true, true, true, true, true, false] rfl rfl (any_of HT_.out (by kernel_rfl)) (fun _ _ _ h => h) (Or.inl ⟨by rfl, ?_⟩) ?_ ?_
  rotate_left
  · intro w'
    go_simp
    with_reducible rfl
  rotate_left
  · simp only [Act.put, List.setIfInBounds_toArray, List.set_cons_zero, List.set_cons_succ, i64_w, i32_w]
    rfl
  refine pure_ (i := 13) (N := (some 11)) (v := ?_) (a' := ?_) #[true, true, true, true, true, true, true, true, true, true, true, true, true, true] rfl rfl (any_of HT_.out (by kernel_rfl)) (fun _ _ _ h => h) (Or.inl ⟨by rfl, ?_⟩) ?_ ?_
  rotate_left
  · intro w'
    go_simp
    with_reducible rfl
  rotate_left
  · simp only [Act.put, List.setIfInBounds_toArray, List.set_cons_zero, List.set_cons_succ, i64_w, i32_w]
    rfl
  refine done_ (done_of HT_.out (by kernel_rfl)) ?_
  clear hHeld BK4
  go_wp2_with (first | ((with_reducible refine gate_dst (N := 12) rfl ?_); refine box_event ?hg (N := 12) ?hd (cs := #[.slice none 0 0]) (t := 43) ?hr ?_; (case hd => rfl); (case hg => rfl); (case hr => first | (go_simp; done) | (go_simp; rfl)); intro s hg w11 hbox hb; (have BS := Aside0.mk hbox); (have BF1 := Aside0.mk (blk_below BF.out hb)); (have BR1 := Aside0.mk (blk_below BR.out hb)); (have BK61 := Aside0.mk (blk_below BK6.out hb)); (have HB1 := Aside0.mk (below_step HB.out hb)); (have Z11 := Aside0.mk (And.intro hg (And.intro (blk_lt BR.out) (And.intro hb.size (Kd.S_lt HO9.out))))); (have HO91 := Aside0.mk (Kd.S_below HO9.out hb)); clear hbox hb hg HB BF BR BK6 HO9; have HB := HB1; have BF := BF1; have BR := BR1; have BK6 := BK61; have HO9 := HO91; clear HB1 BF1 BR1 BK61 HO91) | (go_at_call 70; (with_reducible refine (impl_texts.calls k A2 c2 l2 u _ (Kd.C_below HR2.out HB.out) hc2 A3.out).mono ?_); rintro e8 w12 ⟨v12, rfl, ho, hb⟩; (obtain ⟨AU, cu, rfl⟩ := Kd.S_slice ho); (have HU := Aside0.mk ho); (have Z12 := Aside0.mk (And.intro (blk_lt BS.out) hb.size)); (have BS1 := Aside0.mk (blk_below BS.out hb)); (have BF1 := Aside0.mk (blk_below BF.out hb)); (have BR1 := Aside0.mk (blk_below BR.out hb)); (have BK61 := Aside0.mk (blk_below BK6.out hb)); (have HB1 := Aside0.mk (below_step HB.out hb)); (have HO91 := Aside0.mk (Kd.S_below HO9.out hb)); clear ho hb HB BF BR BK6 HO9 BS; have HB := HB1; have BF := BF1; have BR := BR1; have BK6 := BK61; have HO9 := HO91; have BS := BS1; clear HB1 BF1 BR1 BK61 HO91 BS1))
  have hus : ∀ k, (Value.slice AU u.length cu).ownBlock = some k → w11.heap.size ≤ k := Kd.S_base HU.out
  have hlo : w8.heap.size ≤ w12.heap.size := by have h1 := Z8.out; have h2 := Z9.out; have h3 := Z11.out; have h4 := Z12.out; omega
  have hfr : bf < w8.heap.size ∧ gb6 < w8.heap.size ∧ w8.heap.size ≤ br ∧ br < s ∧ s < w11.heap.size ∧ w.heap.size ≤ w8.heap.size ∧ w8.heap.size ≤ w12.heap.size := by
    have h1 := Z8.out; have h2 := Z9.out; have h3 := Z11.out; have h4 := Z12.out
    omega
  have HT := Aside0.mk (Kd.N_mono (ok' := okA br s (.slice none 0 0)) (Kd.S_N (Kd.S_types (Kd.S_types HO9.out BR.out (by decide)) BS.out (by decide))) (fun k hk => ⟨hk.1.2, hk.2, by simp [Value.ownBlock]⟩))
  have HUF := Aside0.mk (Kd.F_mono (ok' := okB br s (.slice none 0 0) (.slice A9 t.length c9)) (Kd.S_F (Kd.S_bound (Kd.S_types (Kd.S_types HU.out BR.out (by decide)) BS.out (by decide)))) (fun k hk => ⟨⟨hk.1.1.2, hk.1.2, by simp [Value.ownBlock]⟩, fun he => by have := Z11.out.2.2.2 k he.symm; have := hk.2.1; have := Z11.out.2.2.1; omega⟩))
  have HS := Aside0.mk (Seen.mk (w := w12) (s := s) (P := fun k => some k ≠ (Value.slice A9 t.length c9).ownBlock) (v := .slice none 0 0) (L := []) BS.out (Kd.S_nil _ _ _ _ _))
  have ZF := Aside0.mk hfr
  have HUC := Aside0.mk (Kd.S_reads' HU.out).2.1
  clear hus hlo hfr HU HO9 BS Z8 Z9 Z11 Z12
  generalize w8.heap.size = lo at ZF HT
  go_loopg [38] u.length (fun kq v38 w' => ∃ (pre suf T : List (List Int)) (AT : Option Addr) (c0 : Nat) (vs : Value) (L : List S88) (en_ : Nat), v38 = .int .i64 (pre.length : Int) ∧ Aside0 (pre ++ suf = u ∧ kq = suf.length ∧ en_ = en + pre.length) ∧ Aside0 (appN k a0_0 a0_1 a0_2 a0_3 a0_4 a0_5 a1_0 suf en_ T L = some (T', L')) ∧ Aside0 (w'.heap[bf]? = some (.cells (facCells a0_0 a0_1 a0_2 a0_3 a0_4 a0_5) 117 (0, 0))) ∧ Aside0 (w'.heap[br]? = some (.cells (rngCells bf a1_0 (en_ : Int) (.slice AT T.length c0)) 167 (0, 0))) ∧ Aside0 (Kd.N (Kd.slice 5 (Kd.int .u8)) 42 w' lo (okA br s vs) (.slice AT T.length c0) T) ∧ Aside0 (Kd.F (Kd.slice 5 (Kd.int .u8)) w' (okB br s vs (.slice AT T.length c0)) AU u.length u) ∧ Aside0 (Seen w' s (fun k => some k ≠ (Value.slice AT T.length c0).ownBlock) vs L) ∧ Aside0 (w'.heap[gb6]? = some (.cells #[.int .u64 0, .int .u64 0, .slice none 0 0] 40 (0, 0))) ∧ Aside0 (lo ≤ w'.heap.size) ∧ Aside0 (Below w.heap.size w w'))
  case atStart => exact ⟨[], u, t, A9, c9, .slice none 0 0, [], en, rfl, ⟨rfl, rfl, rfl⟩, A4, BF, ⟨by rw [← HEN2.out]; exact BR.out⟩, HT, HUF, HS, BK6, ⟨ZF.out.2.2.2.2.2.2⟩, HB⟩
  case round =>
    clear BF BR HT HUF HS BK6 HB
    obtain ⟨pre, suf, T, AT, c0, vs, L, en_, rfl, HP, HAP, BF, BR, HT, HUF, HS, BK6, HLO, HB⟩ := hrel
    rcases suf with _ | ⟨x, suf⟩
    · have cz : decide ((pre.length : Int) < (u.length : Int)) = false := decide_eq_false (by have := HP.out.1; rw [List.append_nil] at this; rw [this]; omega)
      have cz' : decide (pre.length < u.length) = false := decide_eq_false (by have := HP.out.1; rw [List.append_nil] at this; rw [this]; omega)
      have H := HAP.out
      simp only [appN, Option.some.injEq, Prod.mk.injEq] at H
      obtain ⟨rfl, rfl⟩ := H
      have hen_ : en_ = en + u.length := by have h1 := HP.out.1; have h2 := HP.out.2.2; rw [List.append_nil] at h1; rw [← h1]; exact h2
      subst hen_
      have HTC := Aside0.mk (Kd.N_reads' HT.out).2
      clear HAP HP HT HUF A4
      go_wp2
      have BR1 := Aside0.mk (blk_drew BR.out)
      have HS1 := Aside0.mk (Seen.mk (blk_drew HS.out.cell) (Kd.S_drew HS.out.row))
      have BK61 := Aside0.mk (blk_drew BK6.out)
      have HB1 := Aside0.mk (below_drew1 HB.out)
      have HTC1 := Aside0.mk (And.intro HTC.out.1 (Kd.C_drew HTC.out.2))
      clear BR HS BK6 HB BF HTC
      have BR := BR1
      have HS := HS1
      have BK6 := BK61
      have HB := HB1
      have HTC := HTC1
      clear BR1 HS1 BK61 HB1 HTC1
      refine start_ (n := 6) (S := fun w' => w'.cell? ⟨s, 0, none⟩ = some vs) (ds := []) #[false, false, false, false, false, false] (by kernel_rfl) rfl rfl ((blk_cell HS.out.cell 0).trans rfl) (fun hHeld => ?_)
      refine with_tabW impl_Append.tab13 impl_Append.bits13 (fun HT_ HW_ => ?_)
      generalize wr.drew = w13 at BR HS BK6 HB HTC hHeld ⊢
      refine pure_ (i := 0) (N := (some 50)) (v := ?_) (a' := ?_) #[true, false, false, false, false, false] rfl rfl (any_of HT_.out (by kernel_rfl)) (fun _ _ _ h => h) (Or.inl ⟨by rfl, ?_⟩) ?_ ?_
      rotate_left
      · intro w'
        go_simp
        with_reducible rfl
      rotate_left
      · simp only [Act.put, List.setIfInBounds_toArray, List.set_cons_zero, List.set_cons_succ, i64_w, i32_w]
        rfl
      refine take_ (i := 2) (N := (some 52)) (v := ?_) (a' := ?_) #[true, false, true, false, false, false] rfl rfl (take_ofW HT_.out HW_.out (by kernel_rfl)) (fun _ _ _ h => h) (Or.inl ⟨by rfl, ?_⟩) hHeld ?_ ?_
      rotate_left
      · intro w' s0
        go_simp
        with_reducible rfl
      rotate_left
      · simp only [Act.put, List.setIfInBounds_toArray, List.set_cons_zero, List.set_cons_succ, i64_w, i32_w]
        rfl
      refine one_ (i := 1) (N := (some 51)) #[true, true, true, false, false, false] rfl rfl (one_of HT_.out (by kernel_rfl)) (by decide) (fun K hK => ?_)
      refine goes_ Tryd.func91 (by kernel_rfl) rfl #[.pointer (some ⟨br, 0, none⟩)] (by rfl) rfl rfl (by (try simp only [List.map_toArray, List.map_cons, List.map_nil]); first | done | rfl) ?_
      with_reducible refine (impl_fromRange.calls k br bf a1_0 _ AT c0 T z _ BR.out HTC.out.2 HTC.out.1 A5.out).mono ?_
      rintro e6 w14 ⟨v14, rfl, ho, hb⟩
      refine ⟨_, rfl, ?_⟩
      obtain ⟨A14, c14, rfl⟩ := Kd.S_slice ho
      have HO14 := Aside0.mk (Kd.S_lower ho HB.out.size)
      have HS1 := Aside0.mk (HS.out.below hb)
      have BK61 := Aside0.mk (blk_below BK6.out hb)
      have HB1 := Aside0.mk (below_step HB.out hb)
      clear ho hb HS BK6 HB BR HTC
      have HS := HS1
      have BK6 := BK61
      have HB := HB1
      clear HS1 BK61 HB1
      refine hK.out _ _ ((blk_cell HS.out.cell 0).trans rfl) (fun hHeld => ?_)
      clear hK K
      refine norm_ (a' := ?_) ?_ ?_
      rotate_left
      · show Act.put _ (some 51) _ = _
        simp only [Act.put, List.setIfInBounds_toArray, List.set_cons_zero, List.set_cons_succ, i64_w, i32_w]
        rfl
      have hcz0 := (blk_cell BK6.out 0).trans rfl
      have hcz1 := (blk_cell BK6.out 1).trans rfl
      have hcz2 := (blk_cell BK6.out 2).trans rfl
      have hfz0 := blk_frozen BK6.out 0
      have hfz1 := blk_frozen BK6.out 1
      have hfz2 := blk_frozen BK6.out 2
      have hn6 : gb6 ≠ s := by have := ZF.out; omega
      refine one_ (i := 3) (N := none) #[true, true, true, true, false, false] rfl rfl (one_of HT_.out (by kernel_rfl)) (by decide) (fun K hK => ?_)
      refine skip_ (w1 := ?_) (by rfl) rfl ?_ ?_
      rotate_left
      · go_simp
        rfl
      refine hK.out _ _ ((cell_far (p := ⟨gb6, _, none⟩) hn6.symm _).trans ((cell_far (p := ⟨gb6, _, none⟩) hn6.symm _).trans ((cell_far (p := ⟨gb6, _, none⟩) hn6.symm _).trans hHeld))) (fun hHeld => ?_)
      clear hK K
      refine pure_ (i := 4) (N := (some 7)) (v := ?_) (a' := ?_) #[true, true, true, true, true, false] rfl rfl (any_of HT_.out (by kernel_rfl)) (fun _ _ _ h => h) (Or.inl ⟨by rfl, ?_⟩) ?_ ?_
      rotate_left
      · intro w'
        go_simp
        with_reducible rfl
      rotate_left
      · simp only [Act.put, List.setIfInBounds_toArray, List.set_cons_zero, List.set_cons_succ, i64_w, i32_w]
        rfl
      refine pure_ (i := 5) (N := (some 8)) (v := ?_) (a' := ?_) #[true, true, true, true, true, true] rfl rfl (any_of HT_.out (by kernel_rfl)) (fun _ _ _ h => h) (Or.inl ⟨by rfl, ?_⟩) ?_ ?_
      rotate_left
      · intro w'
        go_simp
        with_reducible rfl
      rotate_left
      · simp only [Act.put, List.setIfInBounds_toArray, List.set_cons_zero, List.set_cons_succ, i64_w, i32_w]
        rfl
      refine done_ (done_of HT_.out (by kernel_rfl)) ?_
      go_wp2
      have hS6 : ∀ k, s + 1 ≤ k → k ≠ gb6 := fun k hk => by have := ZF.out; omega
      refine bodyPost_ret (results_ctt rfl _ _ gb6 40 #[.int .u64 a1_0, .int .u64 ((en + u.length : Nat) : Int), .slice A14 z.length c14] (0, 0) _ rfl (((blk_set (blk_set (blk_set BK6.out 0 _) 1 _) 2 _)).trans rfl) Tryd.underlying40 rfl (by kernel_rfl)) rfl ?_
      have r0 := Kd.S_far (p := ⟨gb6, 2, none⟩) (Kd.S_far (p := ⟨gb6, 1, none⟩) (Kd.S_far (p := ⟨gb6, 0, none⟩) (Kd.S_types HO14.out BK6.out (by decide)) (fun _ hk => hk.2) (.int .u64 a1_0)) (fun _ hk => hk.2) (.int .u64 ((en + u.length : Nat) : Int))) (fun _ hk => hk.2) (.slice A14 z.length c14)
      have r1 := Kd.S_far (p := ⟨gb6, 2, none⟩) (Kd.S_far (p := ⟨gb6, 1, none⟩) (Kd.S_far (p := ⟨gb6, 0, none⟩) (Kd.S_types HS.out.row BK6.out (by decide)) (fun _ hk => hk.2) (.int .u64 a1_0)) (fun _ hk => hk.2) (.int .u64 ((en + u.length : Nat) : Int))) (fun _ hk => hk.2) (.slice A14 z.length c14)
      exact ⟨_, _, rfl, S_toV r0 (Nat.le_refl _), S_toV r1 (by have := ZF.out; omega), ((HB.out.setCell G6.out _).setCell G6.out _).setCell G6.out _⟩
    · have hlt : pre.length < u.length := by have := HP.out.1; rw [← this]; simp
      have cz : decide ((pre.length : Int) < (u.length : Int)) = true := decide_eq_true (by omega)
      have li : ((pre.length : Int) < (u.length : Int)) = True := eq_true (by omega)
      have li0 : ((0 : Int) ≤ (pre.length : Int)) = True := eq_true (by omega)
      have H := HAP.out
      simp only [appN] at H
      obtain ⟨⟨T1, L1⟩, hA, H⟩ := Option.bind_eq_some_iff.mp H
      obtain ⟨low, hi0, hi, x0, ones, TT, i1, i2, q1, q2, q3, q4, q5, q6, q7, q8, q9, q10, q11, q12, q13, q14⟩ := app1_inv hA
      have Q := Aside0.mk (And.intro q1 (And.intro q4 (And.intro q6 (And.intro q7 q13))))
      have HAP1 := Aside0.mk H
      obtain ⟨adU, A4_, c4_, eAU, hx4, hl4, hF4⟩ := f_row_at HUF.out pre.length hlt
      have hxe : u.getD pre.length [] = x := by rw [← HP.out.1]; simp
      rw [hxe] at hx4 hl4 hF4
      subst eAU
      have HX4 := Aside0.mk hx4
      have HL4 := Aside0.mk hl4
      have HF4 := Aside0.mk hF4
      have HQ := Aside0.mk q14
      clear H hA q1 q4 q6 q7 q13 hl4 hF4 HAP hxe q14
      go_wp2_with (first | (go_at_call 89; (refine (compact_Range_Append.calls k a0_0 a0_1 a0_2 a0_3 a0_4 a0_5 bf br s lo low hi0 hi x0 ones a1_0 en_ _ impl_Append_1.ok c0 c4_ AT A4_ T x vs L TT i1 i2 L1 wr ?gt Q.out.1 q2 q3 Q.out.2.1 q5 Q.out.2.2.1 Q.out.2.2.2.1 q8 q9 q10 q11 q12 Q.out.2.2.2.2 BF.out BR.out HT.out HL4.out HF4.out HS.out ZF.out.2.2.2.1 ?fs HLO.out).mono ?_); (case gt => exact hGT.below HB.out); (case fs => have := ZF.out; omega); rintro e11 w11 ⟨A11, c11, vs11, rfl, p1, p2, p3, p4, p5, p6, p7⟩; (have HP11 := Aside0.mk (And.intro p1 (And.intro p2 (And.intro p3 (And.intro p4 (And.intro p5 (And.intro p6 p7))))))); clear p1 p2 p3 p4 p5 p6 p7 hx4; try refine ⟨_, rfl, ?_⟩))
      obtain ⟨p1, p2, p3, p4, p5, p6, p7⟩ := HP11.out
      have hT1 : T1 = T.take i1 ++ [TT] ++ ([] : List (List Int)).drop i2 := HQ.out
      rw [← hT1] at p2 p3 p4 p7
      have hz := ZF.out
      have hvb : ∀ k, vs.ownBlock = some k → s + 1 ≤ k := Kd.S_base HS.out.row
      have htb : ∀ k, (Value.slice AT T.length c0).ownBlock = some k → lo ≤ k := Kd.N_base HT.out
      have wB : Below w.heap.size w w11 := HB.out.trans (KeptB.to_below p5 (fun k hk => by
        rcases hk with h | h | h | h
        · omega
        · omega
        · have := hvb k h.symm; omega
        · have := htb k h.symm; omega) HB.out.size)
      have w6 : w11.heap[gb6]? = some (.cells #[.int .u64 0, .int .u64 0, .slice none 0 0] 40 (0, 0)) := blk_kept BK6.out p5.1 (fun hk => by
        rcases hk with h | h | h | h
        · omega
        · omega
        · have := hvb gb6 h.symm; omega
        · have := htb gb6 h.symm; omega)
      have wU : Kd.F (Kd.slice 5 (Kd.int .u8)) w11 (okB br s vs11 (.slice A11 T1.length c11)) (some adU) u.length u := Kd.F_mono (F_keptR (Kd.F_bound HUF.out) p5.1 (fun k hk h => by
        rcases h with h | h | h | h
        · exact hk.1.1.1 h
        · exact hk.1.1.2.1 h
        · exact hk.1.1.2.2 h
        · exact hk.1.2 h)) (fun k hk => okB.after p6 p7 hk)
      have wL : lo ≤ w11.heap.size := Nat.le_trans HLO.out p5.1.1
      go_roundg suf.length
      case measure => have := HP.out.2.1; simp at this; omega
      case rel => exact ⟨pre ++ [x], suf, T1, A11, c11, vs11, L1, en_ + 1, by rw [List.length_append, List.length_singleton]; rfl, ⟨by rw [← HP.out.1]; simp, rfl, by have := HP.out.2.2; rw [List.length_append, List.length_singleton]; omega⟩, HAP1, ⟨p1⟩, ⟨p2⟩, ⟨p3⟩, ⟨wU⟩, ⟨p4⟩, ⟨w6⟩, ⟨wL⟩, ⟨wB⟩⟩
end Go.Proofs.YtijldedhcjkhiaaDoor.S
