import Derived.Test.YtijldedhcjkhiaaDoorSSMSNodesV
import Derived.Test.YtijldedhcjkhiaaDoorSSMSHashS
import Derived.Test.YtijldedhcjkhiaaDoorSSMSLoopsE
import Derived.Test.YtijldedhcjkhiaaDoorSSS3
import Derived.Test.YtijldedhcjkhiaaDoorSSS2
namespace Go.Proofs.YtijldedhcjkhiaaDoor.Pure
open Go.RowKit Go.Proofs.YtijldedhcjkhiaaDoorW.PrintWords Go.Proofs.YtijldedhcjkhiaaDoorW.PrintLast Go.Proofs.YtijldedhcjkhiaaDoorW.PrintMore S Go.Proofs.YtijldedhcjkhiaaDoorM
set_option linter.unusedVariables false
theorem nodes_ev {b e : Nat} {t : List Nd} (h64 : e < 18446744073709551616) (R : Row b e t) : Ev (fun k => spec_Nodes.f k (b : Int) (e : Int)) (t.map sn) := ⟨10001, fun k hk => spec_nodes h64 R k (by omega)⟩
theorem fits2_ev (l : List (List Int)) : ∃ b, Ev (fun k => laws_zzFits2.f k l) b ∧ (b = true → l.length ≤ 2147483647 ∧ ∀ x ∈ l, x.length ≤ 2147483647) := by
  obtain ⟨f, hf, hf2⟩ := fits_eq l (l.length + 1) (Nat.lt_succ_self _)
  exact ⟨f, Ev.of (laws_zzFits2.mono _) hf, hf2⟩
theorem small_ev (l : List (List Int)) (h1 : l.length < 1000000000000000000) : ∃ s, Ev (fun k => laws_logSmall.f k l) s ∧ (s = true → (∀ x ∈ l, x.length ≤ 5000) ∧ l.length ≤ 300) := by
  obtain ⟨s, h2, h3⟩ := small_eq l (l.length + 1) h1 (Nat.lt_succ_self _)
  exact ⟨s, Ev.of (laws_logSmall.mono _) h2, h3⟩
theorem fair_ev (b e : Nat) (h64 : e < 18446744073709551616) (l : List (List Int)) (hl : l.length ≤ 2147483647) : ∃ r, Ev (fun k => laws_rangeFair.f k (b : Int) (e : Int) l) r ∧ (r = true → b ≤ e ∧ (∃ t, Row b e t ∧ l.length = t.length) ∧ (∀ x ∈ l, x.length ≤ 5000) ∧ l.length ≤ 300) := by
  unfold laws_rangeFair.f spec_ProperRange.f
  by_cases hbe : b ≤ e
  · obtain ⟨t, R, _⟩ := range_row b e hbe h64
    simp only [if_pos (Int.ofNat_le.2 hbe)]
    by_cases hlt : l.length = t.length
    · obtain ⟨s, h1, h2⟩ := small_ev l (Nat.lt_of_le_of_lt hl (by decide))
      refine ⟨s, Ev.bind (a := true) (Ev.bind (a := t.map sn) (nodes_ev h64 R) ?_) ?_, fun hs => ⟨hbe, ⟨t, R, hlt⟩, (h2 hs).1, (h2 hs).2⟩⟩
      · have e1 : ((l.length : Int) == ((t.map sn).length : Int)) = true := by rw [beq_iff_eq, hlt, List.length_map]
        rw [e1]
        exact Ev.now _
      · simp only [if_true]
        exact Ev.bind h1 (Ev.now _)
    · refine ⟨false, Ev.bind (a := false) (Ev.bind (a := t.map sn) (nodes_ev h64 R) ?_) ?_, fun hs => by cases hs⟩
      · have e1 : ((l.length : Int) == ((t.map sn).length : Int)) = false := by rw [beq_eq_false_iff_ne, List.length_map]; exact fun h => hlt (Int.ofNat.inj h)
        rw [e1]
        exact Ev.now _
      · exact Ev.now _
  · simp only [if_neg (show ¬ (b : Int) ≤ (e : Int) from fun h => hbe (Int.ofNat_le.1 h))]
    exact ⟨false, Ev.bind (a := false) (Ev.now _) (Ev.now _), fun hs => by cases hs⟩
theorem u64_nat (a : Int) (h : (Lit.int .u64 a).wf = true) : ∃ n : Nat, a = (n : Int) ∧ n < 18446744073709551616 := by
  have h2 : 0 ≤ a ∧ a < 18446744073709551616 := by
    simp [Lit.wf, IntKind.min, IntKind.max, IntKind.signed, IntKind.bits] at h
    omega
  exact ⟨a.toNat, by omega, by omega⟩
end Go.Proofs.YtijldedhcjkhiaaDoor.Pure
