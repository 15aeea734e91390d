import Derived.Test.YtijldedhcjkhiaaDoorKMZPak
import Derived.Test.YtijldedhcjkhiaaDoorKMZNodesR
import Derived.Test.YtijldedhcjkhiaaDoorKMZOnes
import Derived.Test.YtijldedhcjkhiaaDoorKZ9
namespace Go.Proofs.YtijldedhcjkhiaaDoor.Z
open Go.RowKit Go.Proofs.YtijldedhcjkhiaaDoorW.PrintWords Go.Proofs.YtijldedhcjkhiaaDoorW.PrintLast Go.Proofs.YtijldedhcjkhiaaDoorW.PrintMore Go.Proofs.YtijldedhcjkhiaaDoorM
set_option linter.unusedVariables false
theorem rev_run : ∀ (n : Nat) (p m s : List S107) (k : Nat), m.length ≤ n → p.length = s.length → p.length + m.length + s.length ≤ 100000 → n < k →
    proof_reverse.l0 k (p ++ (m ++ s)) (p.length : Int) ((p.length : Int) + (m.length : Int) - 1) = some (p ++ (m.reverse ++ s)) := by
  intro n
  induction n with
  | zero =>
    intro p m s k hm hps hl hk
    obtain ⟨k, rfl⟩ : ∃ z, k = z + 1 := ⟨k - 1, by omega⟩
    obtain rfl : m = [] := List.length_eq_zero_iff.1 (by omega)
    simp only [proof_reverse.l0]
    rw [if_neg (by simp; omega)]
    rfl
  | succ n ih =>
    intro p m s k hm hps hl hk
    obtain ⟨k, rfl⟩ : ∃ z, k = z + 1 := ⟨k - 1, by omega⟩
    cases m with
    | nil =>
      simp only [proof_reverse.l0]
      rw [if_neg (by simp; omega)]
      rfl
    | cons x m =>
      rcases List.eq_nil_or_concat m with rfl | ⟨m, y, rfl⟩
      · simp only [proof_reverse.l0]
        rw [if_neg (by simp)]
        rfl
      · simp only [List.concat_eq_append, List.length_cons, List.length_append, List.length_nil] at hm hl ⊢
        have e1 : ((p.length : Int) + ((m.length + (0 + 1) + 1 : Nat) : Int) - 1) = ((p.length + m.length + 1 : Nat) : Int) := by omega
        have hL : p ++ (x :: (m ++ [y]) ++ s) = p ++ x :: (m ++ y :: s) := by simp
        have hlen : ((p ++ x :: (m ++ y :: s)).length : Int) = ((p.length + m.length + 2 + s.length : Nat) : Int) := by simp; omega
        have hx : rd_T107 (p ++ x :: (m ++ y :: s)) (p.length : Int) = x := by simp [rd_T107]
        have hy : rd_T107 (p ++ x :: (m ++ y :: s)) ((p.length + m.length + 1 : Nat) : Int) = y := by
          unfold rd_T107
          rw [Int.toNat_natCast, List.getD_eq_getElem?_getD, List.getElem?_append_right (by omega), show p.length + m.length + 1 - p.length = m.length + 1 by omega, List.getElem?_cons_succ, List.getElem?_append_right (by omega), Nat.sub_self]
          rfl
        rw [e1, hL]
        simp only [proof_reverse.l0]
        rw [if_pos (by omega), if_pos (by omega), if_pos (by rw [hlen]; omega), if_pos (by omega), if_pos (by rw [hlen]; omega), hx, hy]
        have e2 : ((p ++ [y]).length : Int) = (p.length : Int) + 1 := by simp
        have w1 : wrap64 ((p.length : Int) + 1) = ((p ++ [y]).length : Int) := by rw [e2, wrap64_id _ (by omega) (by omega)]
        have w2 : wrap64 (((p.length + m.length + 1 : Nat) : Int) - 1) = ((p ++ [y]).length : Int) + (m.length : Int) - 1 := by rw [e2, wrap64_id _ (by omega) (by omega)]; omega
        have hset : ((p ++ x :: (m ++ y :: s)).set (p.length : Int).toNat (⟨y.f0, y.f1⟩ : S107)).set ((p.length + m.length + 1 : Nat) : Int).toNat (⟨x.f0, x.f1⟩ : S107) = (p ++ [y]) ++ (m ++ (x :: s)) := by
          rw [Int.toNat_natCast, Int.toNat_natCast, List.set_append_right _ _ (Nat.le_refl _), Nat.sub_self, List.set_cons_zero, List.set_append_right _ _ (by omega), show p.length + m.length + 1 - p.length = m.length + 1 by omega, List.set_cons_succ, List.set_append_right _ _ (Nat.le_refl _), Nat.sub_self, List.set_cons_zero]
          simp
        rw [w1, w2, hset, ih (p ++ [y]) m (x :: s) k (by omega) (by simp; omega) (by simp; omega) (by omega)]
        simp
theorem reverse_eq (l : List S107) (hl : l.length ≤ 10000) (k : Nat) (hk : l.length < k) : proof_reverse.f k l = some l.reverse := by
  have h := rev_run l.length [] l [] k (Nat.le_refl _) rfl (by simp; omega) hk
  simp only [List.nil_append, List.append_nil, List.length_nil] at h
  unfold proof_reverse.f
  rw [wrap64_id _ (by omega) (by omega)]
  rw [show ((0 : Nat) : Int) + (l.length : Int) - 1 = (l.length : Int) - 1 by omega] at h
  exact h
theorem reverse_tail (a b : List S107) (hl : b.length ≤ 10000) (k : Nat) (hk : b.length < k) (j : Int) (hj : j = (a.length : Int)) : proof_reverse_cut.f k (a ++ b) j = some (a ++ b.reverse) := by
  subst hj
  unfold proof_reverse_cut.f
  rw [Int.toNat_natCast, List.drop_left, List.take_left, reverse_eq b hl k hk]
  rfl
theorem two_binds (D : Option (Int × Int)) (f : Int → Option Int) (l r a b : Int) (hD : D = some (l, r)) (h1 : f l = some a) (h2 : f r = some b) : (D.bind fun bt => (f bt.1).bind fun x => (f bt.2).bind fun y => some (wrap64 (x + y))) = some (wrap64 (a + b)) := by
  subst hD
  show ((f l).bind fun x => (f r).bind fun y => some (wrap64 (x + y))) = _
  rw [h1, h2]
  rfl
theorem sum_wrap (a b c : Nat) (ha : a ≤ 64) (hb : b ≤ 64) (h : c = a + b) : wrap64 ((a : Int) + (b : Int)) = (c : Int) := by
  rw [wrap64_id _ (by omega) (by omega)]
  omega
theorem range_size {b e : Nat} {t : List Nd} (h64 : e < 18446744073709551616) (ht : t.length ≤ 128) (h : ∃ l r : Nat, compact_Decompose.f (b : Int) (e : Int) = some ((l : Int), (r : Int)) ∧ l + r ≤ e ∧ t.length = pop 64 l + pop 64 r) : compact_RangeSize.f (b : Int) (e : Int) = some (t.length : Int) := by
  obtain ⟨l, r, h1, h2, h3⟩ := h
  rw [← sum_wrap _ _ _ (pop_le 64 l) (pop_le 64 r) h3]
  exact two_binds _ _ _ _ _ _ h1 (onesCount l (Nat.lt_of_le_of_lt (Nat.le_trans (Nat.le_add_right _ _) h2) h64)) (onesCount r (Nat.lt_of_le_of_lt (Nat.le_trans (Nat.le_add_left _ _) h2) h64))
theorem sibling_eq (F q : Nat) (hq : q < 18446744073709551616) : compact_NodeID_Sibling.f (F : Int) (q : Int) = some ((F : Int), ((q ^^^ 1 : Nat) : Int)) := by
  unfold compact_NodeID_Sibling.f compact_NewNodeID.f
  rw [show (1 : Int) = ((1 : Nat) : Int) from rfl, xor_nat q 1 hq (by omega)]
  rfl
theorem parent_eq (F q : Nat) (hF : F < 1000) : compact_NodeID_Parent.f (F : Int) (q : Int) = some (((F + 1 : Nat) : Int), ((q / 2 : Nat) : Int)) := by
  unfold compact_NodeID_Parent.f compact_NewNodeID.f
  rw [show (F : Int) + 1 = ((F + 1 : Nat) : Int) by omega, u64_small _ (by omega), show (q : Int) / 2 = ((q / 2 : Nat) : Int) by omega]
  rfl
theorem up_run (L i d : Nat) (hi : i < 18446744073709551616) (hL : L + d < 1000) (a2 b9 b10 s11 s12 : Int) (F1 : Int) (R : Option (List S107 × Int × Int × Int × Int))
    (hR : ∀ k, 500 < k → proof_nodes.l0 (k + 1) a2 b9 b10 s11 s12 ((sibs L i d).map cn) ((L + d : Nat) : Int) F1 ((L + d : Nat) : Int) ((i / 2 ^ d : Nat) : Int) = R) :
    ∀ f j, j + f = d → ∀ k, 500 < k → proof_nodes.l0 (k + f + 1) a2 b9 b10 s11 s12 ((sibs L i j).map cn) ((L + d : Nat) : Int) F1 ((L + j : Nat) : Int) ((i / 2 ^ j : Nat) : Int) = R := by
  intro f
  induction f with
  | zero =>
    intro j hj k hk
    obtain rfl : j = d := by omega
    exact hR k hk
  | succ f ih =>
    intro j hj k hk
    have hq : i / 2 ^ j < 18446744073709551616 := Nat.lt_of_le_of_lt (Nat.div_le_self _ _) hi
    rw [show k + (f + 1) + 1 = (k + f + 1) + 1 by omega]
    simp only [proof_nodes.l0]
    rw [if_pos (by omega), sibling_eq _ _ hq]
    simp only [Option.bind_some]
    have hlen : ((sibs L i j).map cn).length = j + 1 := by rw [List.length_map, sibs_length]
    rw [if_pos (by rw [hlen]; simp; omega), parent_eq _ _ (by omega)]
    simp only [Option.bind_some]
    have e1 : (sibs L i j).map cn ++ [(⟨((L + j : Nat) : Int), ((i / 2 ^ j ^^^ 1 : Nat) : Int)⟩ : S107)] = (sibs L i (j + 1)).map cn := by rw [sibs_succ, List.map_append]; rfl
    have h := ih (j + 1) (by omega) k hk
    rw [e1, ← half, show ((L + j + 1 : Nat) : Int) = ((L + (j + 1) : Nat) : Int) by omega]
    exact h
theorem cap_le (d a b : Nat) (hd : d < 64) (ha : a ≤ 128) (hb : b ≤ 128) : 1 + d + a + b ≤ 17592186044416 := Nat.le_trans (show 1 + d + a + b ≤ 400 by omega) (by decide)
theorem bind_of {α β : Type} {o : Option α} {a : α} {g : α → Option β} (h : o = some a) : o.bind g = g a := by
  subst h
  rfl
theorem end_run (L i d q n : Nat) (t1 t2 : List Nd) (hLd : L + d < 64) (hd : d < 64) (hq64 : 2 * q < 18446744073709551616) (l1 : t1.length ≤ 128) (l2 : t2.length ≤ 128) (b e : Int)
    (N1 : ∀ (acc : List S107) (k : Nat), acc.length ≤ 800 → 300 < k → compact_RangeNodes.f k e (n : Int) acc = some (acc ++ t1.map cn)) (N2 : ∀ (acc : List S107) (k : Nat), acc.length ≤ 800 → 300 < k → compact_RangeNodes.f k 0 b acc = some (acc ++ t2.map cn)) (k : Nat) (hk : 500 < k) (x : Int) :
    proof_nodes.l0 (k + 1) (n : Int) b e (t2.length : Int) (t1.length : Int) ((sibs L i d).map cn) ((L + d : Nat) : Int) ((2 * q : Nat) : Int) ((L + d : Nat) : Int) x = some ((sibs L i d ++ (t1.reverse ++ t2.reverse)).map cn, if t1 = [] then 0 else ((1 + d : Nat) : Int), if t1 = [] then 0 else ((1 + d + t1.length : Nat) : Int), ((L + d : Nat) : Int), ((2 * q ^^^ 1 : Nat) : Int)) := by
  have hsl : ((sibs L i d).map cn).length = d + 1 := by rw [List.length_map, sibs_length]
  generalize hS : (sibs L i d).map cn = S at *
  have w3 : wrap64 (((S ++ t1.map cn).length : Int) - (t1.length : Int)) = (S.length : Int) := by
    have e4 : (((S ++ t1.map cn).length : Nat) : Int) = (S.length : Int) + (t1.length : Int) := by simp
    rw [e4, wrap64_id _ (by omega) (by omega)]
    omega
  have w4 : wrap64 ((((S ++ (t1.map cn).reverse) ++ t2.map cn).length : Int) - (t2.length : Int)) = ((S ++ (t1.map cn).reverse).length : Int) := by
    have e4 : ((((S ++ (t1.map cn).reverse) ++ t2.map cn).length : Nat) : Int) = ((S ++ (t1.map cn).reverse).length : Int) + (t2.length : Int) := by simp; omega
    have e5 : ((S ++ (t1.map cn).reverse).length : Int) = ((d + 1 + t1.length : Nat) : Int) := by simp [hsl]
    rw [e4, wrap64_id _ (by omega) (by omega)]
    omega
  have r1 := reverse_tail S (t1.map cn) (by rw [List.length_map]; omega) k (by rw [List.length_map]; omega) _ rfl
  have r2 := reverse_tail (S ++ (t1.map cn).reverse) (t2.map cn) (by rw [List.length_map]; omega) k (by rw [List.length_map]; omega) _ rfl
  have n1 := N1 S k (by omega) (by omega)
  have n2 := N2 (S ++ (t1.map cn).reverse) k (by simp; omega) (by omega)
  have hfin : S ++ (t1.map cn).reverse ++ (t2.map cn).reverse = (sibs L i d ++ (t1.reverse ++ t2.reverse)).map cn := by rw [← hS]; simp
  unfold proof_nodes.l0
  rw [if_neg (Int.lt_irrefl _)]
  refine (bind_of n1).trans ?_
  rw [w3, if_pos (Int.natCast_nonneg _), if_pos (by rw [List.length_append]; omega)]
  refine (bind_of r1).trans ?_
  refine (bind_of n2).trans ?_
  rw [w4, if_pos (Int.natCast_nonneg _), if_pos (by rw [List.length_append (bs := t2.map cn)]; omega)]
  refine (bind_of r2).trans ?_
  rw [hfin]
  by_cases ht : t1 = []
  · rw [if_pos (by rw [ht]; simp), if_pos ht, if_pos ht]
    exact (bind_of (sibling_eq _ _ hq64)).trans rfl
  · have hne : t1.length ≠ 0 := fun h => ht (List.length_eq_zero_iff.1 h)
    rw [if_neg (by simp; omega), if_neg ht, if_neg ht]
    refine (bind_of (sibling_eq _ _ hq64)).trans ?_
    have e1 : (S.length : Int) = ((1 + d : Nat) : Int) := by omega
    have e2 : ((S ++ t1.map cn).length : Int) = ((1 + d + t1.length : Nat) : Int) := by simp; omega
    rw [e1, e2]
set_option maxHeartbeats 2000000 in
theorem nodes_eq (i L n : Nat) (h64 : n < 18446744073709551616) (hi : i < n / 2 ^ L) : ∃ d t1 t2, Row ((i / 2 ^ d + 1) * 2 ^ (L + d)) n t1 ∧ Row 0 (i / 2 ^ d * 2 ^ (L + d)) t2 ∧ L + d < 64 ∧ (i / 2 ^ d + 1) * 2 ^ (L + d) ≤ n ∧ Lib.bitLen (i ^^^ (n / 2 ^ L)) = d + 1 ∧
    ∀ k, 1000 < k → proof_nodes.f k (i : Int) (L : Int) (n : Int) = some ((sibs L i d ++ (t1.reverse ++ t2.reverse)).map cn, if t1 = [] then 0 else ((1 + d : Nat) : Int), if t1 = [] then 0 else ((1 + d + t1.length : Nat) : Int), ((L + d : Nat) : Int), ((i / 2 ^ d ^^^ 1 : Nat) : Int)) := by
  obtain ⟨d, q, x, y, hx, hy, hA, hB⟩ := part_of (n / 2 ^ L) i hi
  have hN : n / 2 ^ L ≤ n := Nat.div_le_self _ _
  have hi64 : i < 18446744073709551616 := by omega
  have e1 : 2 ^ (d + 1) = 2 * 2 ^ d := pow_add_two d
  have hd0 := two_pow_pos d
  have hid : i / 2 ^ d = 2 * q := by
    rw [hA, e1, Nat.mul_assoc, Nat.mul_comm 2 (2 ^ d * q), Nat.mul_assoc, Nat.mul_add_div hd0, Nat.div_eq_of_lt hx, Nat.add_zero, Nat.mul_comm]
  have hend : (2 * q + 1) * 2 ^ (L + d) ≤ n := by
    have h1 : (2 * q + 1) * 2 ^ d ≤ n / 2 ^ L := by
      rw [hB, e1, Nat.add_mul, Nat.one_mul, Nat.mul_assoc, Nat.mul_assoc, Nat.mul_comm q]
      omega
    have h2 : (2 * q + 1) * 2 ^ d * 2 ^ L ≤ n / 2 ^ L * 2 ^ L := Nat.mul_le_mul_right _ h1
    have h3 : n / 2 ^ L * 2 ^ L ≤ n := Nat.div_mul_le_self _ _
    rw [Nat.pow_add, Nat.mul_comm (2 ^ L), ← Nat.mul_assoc]
    omega
  have hLd : L + d < 64 := by
    refine pow_lt_iff.1 (Nat.lt_of_le_of_lt ?_ (by rw [pow64]; exact h64))
    refine Nat.le_trans ?_ hend
    rw [Nat.add_mul, Nat.one_mul]
    omega
  have hbeg : 2 * q * 2 ^ (L + d) ≤ n := Nat.le_trans (Nat.mul_le_mul_right _ (by omega)) hend
  obtain ⟨t1, R1, S1, N1⟩ := range_nodes ((2 * q + 1) * 2 ^ (L + d)) n hend h64
  obtain ⟨t2, R2, S2, N2⟩ := range_nodes 0 (2 * q * 2 ^ (L + d)) (by omega) (by omega)
  have hlen : Lib.bitLen (i ^^^ (n / 2 ^ L)) = d + 1 := by
    rw [hA, hB]
    exact len_part d q x y hx hy (by omega)
  refine ⟨d, t1, t2, by rw [hid]; exact R1, by rw [hid]; exact R2, hLd, by rw [hid]; exact hend, hlen, fun k hk => ?_⟩
  have l1 := R1.len
  have l2 := R2.len
  have hx64 : i ^^^ (n / 2 ^ L) < 18446744073709551616 := xor_lt64 hi64 (by omega)
  have hf : bits_Len64.f ((i ^^^ (n / 2 ^ L) : Nat) : Int) = some ((d + 1 : Nat) : Int) := by
    unfold bits_Len64.f
    rw [if_pos (by omega), if_pos (by omega), Int.toNat_natCast, hlen]
  have hq64 : 2 * q < 18446744073709551616 := by rw [← hid]; exact Nat.lt_of_le_of_lt (Nat.div_le_self _ _) hi64
  have w1 : wrap64 (((d + 1 : Nat) : Int) - 1) = (d : Int) := by rw [wrap64_id] <;> omega
  have hF := two_pow_pos (L + d)
  have hq1 : 2 * q + 1 < 18446744073709551616 := Nat.lt_of_le_of_lt (Nat.le_trans (Nat.le_mul_of_pos_right _ hF) hend) h64
  have hcov : compact_NodeID_Coverage.f ((L + d : Nat) : Int) ((2 * q : Nat) : Int) = some (((2 * q * 2 ^ (L + d) : Nat) : Int), (((2 * q + 1) * 2 ^ (L + d) : Nat) : Int)) := by
    unfold compact_NodeID_Coverage.f
    rw [if_pos (by omega), show ((2 * q : Nat) : Int) + 1 = ((2 * q + 1 : Nat) : Int) by omega, u64_small _ hq1, shl_nat _ _ (by omega), shl_nat _ _ (by omega), Nat.mod_eq_of_lt (Nat.lt_of_le_of_lt hbeg h64), Nat.mod_eq_of_lt (Nat.lt_of_le_of_lt hend h64)]
  have hs2 : compact_RangeSize.f 0 ((2 * q * 2 ^ (L + d) : Nat) : Int) = some (t2.length : Int) := range_size (b := 0) (Nat.lt_of_le_of_lt hbeg h64) l2 S2
  have hs1 := range_size h64 l1 S1
  have hnn : ∀ a b : Int, compact_NewNodeID.f a b = some (a, b) := fun _ _ => rfl
  have w2 : wrap64 (wrap64 (wrap64 (1 + (d : Int)) + (t1.length : Int)) + (t2.length : Int)) = ((1 + d + t1.length + t2.length : Nat) : Int) := by
    rw [wrap64_id (1 + (d : Int)) (by omega) (by omega), wrap64_id (1 + (d : Int) + (t1.length : Int)) (by omega) (by omega), wrap64_id _ (by omega) (by omega)]
    omega
  have hcap : 1 + d + t1.length + t2.length ≤ 17592186044416 := cap_le d _ _ (by omega) l1 l2
  unfold proof_nodes.f
  rw [if_pos (by omega), shr_nat n L (by omega), xor_nat _ _ hi64 (by omega)]
  refine (bind_of hf).trans ?_
  rw [w1, if_pos (by omega), u64_small d (by omega), show (L : Int) + (d : Int) = ((L + d : Nat) : Int) by omega, u64_small _ (by omega), shr_nat i d (by omega), hid]
  refine (bind_of (hnn _ _)).trans ?_
  refine (bind_of hcov).trans ?_
  refine (bind_of hs2).trans ?_
  refine (bind_of hs1).trans ?_
  refine (bind_of (hnn _ _)).trans ?_
  rw [w2, if_pos (Int.natCast_nonneg _), if_pos (by rw [Int.toNat_natCast]; exact hcap)]
  refine (bind_of rfl).trans ?_
  refine (bind_of rfl).trans ?_
  rw [if_pos (by show 1 < 8796093022208; omega)]
  obtain ⟨k, rfl⟩ : ∃ z, k = z + d + 1 := ⟨k - d - 1, by omega⟩
  have hup := up_run L i d hi64 (by omega) (n : Int) ((2 * q * 2 ^ (L + d) : Nat) : Int) (((2 * q + 1) * 2 ^ (L + d) : Nat) : Int) (t2.length : Int) (t1.length : Int) ((2 * q : Nat) : Int)
    (some ((sibs L i d ++ (t1.reverse ++ t2.reverse)).map cn, if t1 = [] then 0 else ((1 + d : Nat) : Int), if t1 = [] then 0 else ((1 + d + t1.length : Nat) : Int), ((L + d : Nat) : Int), ((2 * q ^^^ 1 : Nat) : Int)))
    (fun k hk => end_run L i d q n t1 t2 hLd (by omega) hq64 l1 l2 _ _ (fun acc k ha hk => N1 acc k ha hk) (fun acc k ha hk => N2 acc k ha hk) k hk _) d 0 (by omega) k (by omega)
  rw [Nat.pow_zero, Nat.div_one] at hup
  exact hup
end Go.Proofs.YtijldedhcjkhiaaDoor.Z
