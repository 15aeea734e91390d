/-
  A product of differences is 0 exactly if one is; the product of all elements but 0 is 1.
-/
import Derived.Test.YtpeikjnkbjabpaaDoorTabs
import Derived.Test.YtpeikjnkbjabpaaDoorX1
import Derived.Test.YtpeikjnkbjabpaaDoorM0
namespace Go.Proofs.YtpeikjnkbjabpaaDoor.Pure
open Go.RowKit Go.Proofs.YtpeikjnkbjabpaaDoorW.PrintWords Go.Proofs.YtpeikjnkbjabpaaDoorW.PrintLast Go.Proofs.YtpeikjnkbjabpaaDoorW.PrintMore Go.Proofs.YtpeikjnkbjabpaaDoor.X Go.Proofs.YtpeikjnkbjabpaaDoor.Lay Go.Proofs.YtpeikjnkbjabpaaDoorM
set_option linter.unusedVariables false

/-- The products of the elements from 1 up to i. -/
def prods : List Nat := [1, 1, 2, 6, 24, 120, 13, 35, 5, 45, 47, 20, 240, 196, 204, 112, 83, 10, 180, 78, 177, 144, 178, 214, 31, 10, 228, 164, 113, 68, 171, 37, 212, 75, 3, 101, 181, 120, 182, 102, 75, 188, 242, 227, 209, 75, 80, 197, 73, 120, 152, 42, 27, 157, 6, 178, 213, 93, 190, 55, 128, 235, 113, 32, 232, 112, 177, 149, 192, 173, 193, 119, 19, 63, 224, 204, 84, 39, 194, 224, 4, 89, 136, 80, 141, 91, 93, 233, 245, 110, 167, 181, 246, 122, 238, 208, 33, 221, 92, 53, 251, 10, 219, 157, 66, 141, 139, 97, 111, 50, 51, 110, 109, 144, 204, 192, 212, 222, 196, 72, 140, 64, 235, 73, 205, 1, 126, 142, 64, 199, 160, 35, 220, 185, 115, 123, 180, 113, 111, 119, 91, 78, 39, 186, 48, 50, 91, 178, 54, 171, 136, 144, 250, 186, 224, 145, 28, 247, 62, 230, 239, 201, 247, 153, 155, 85, 68, 20, 200, 30, 144, 85, 124, 129, 35, 168, 92, 155, 246, 225, 189, 170, 250, 41, 143, 107, 21, 18, 106, 164, 249, 118, 73, 141, 58, 36, 146, 117, 55, 70, 250, 205, 214, 97, 25, 167, 111, 20, 230, 97, 51, 166, 27, 85, 235, 85, 154, 176, 118, 119, 244, 75, 88, 30, 143, 31, 81, 23, 96, 14, 13, 55, 200, 110, 81, 165, 160, 123, 195, 227, 1, 241, 184, 103, 214, 111, 251, 178, 101, 192, 180, 142, 126, 131, 253, 1]
set_option maxRecDepth 100000 in
theorem prods_step : ∀ i : Fin 255, prods.getD i.val 0 < 256 ∧ gm (prods.getD i.val 0) (i.val + 1) = prods.getD (i.val + 1) 0 := by decide +kernel
theorem mul_f (a b : Nat) (ha : a < 256) (hb : b < 256) : impl_Mul.f (a : Int) (b : Int) = some ((gmul a b : Nat) : Int) := by
  unfold impl_Mul.f reedsolomon_DoorMultiply.f reedsolomon_galMultiply.f
  rw [if_pos (by omega), if_pos (by omega), if_pos (by omega), if_pos (by omega), Option.bind_some, Option.bind_some, Int.toNat_natCast, Int.toNat_natCast]
theorem add_f (a b : Nat) (ha : a < 256) (hb : b < 256) : impl_Add.f (a : Int) (b : Int) = some ((a ^^^ b : Nat) : Int) := by
  unfold impl_Add.f reedsolomon_DoorAdd.f reedsolomon_galAdd.f
  rw [u8_xor_nat a b ha hb, Option.bind_some, Option.bind_some]
theorem wf_u8 (a : Int) (h : (Lit.int .u8 a).wf = true) : ∃ n : Nat, a = (n : Int) ∧ n < 256 := by
  have h2 : 0 ≤ a ∧ a < 256 := by
    simp [Lit.wf, IntKind.min, IntKind.max, IntKind.signed, IntKind.bits] at h
    omega
  exact ⟨a.toNat, by omega, by omega⟩
theorem xor_zero_iff (a b : Nat) : a ^^^ b = 0 ↔ a = b := by
  constructor
  · intro h
    have : a ^^^ b ^^^ b = 0 ^^^ b := by rw [h]
    rwa [Nat.xor_assoc, Nat.xor_self, Nat.xor_zero, Nat.zero_xor] at this
  · intro h; rw [h, Nat.xor_self]

theorem all_run (x5 : Int) (x6 : Bool) (h : (x5 == 0) = x6) (f : Nat) : ∀ (i k : Nat), i + f = 255 → f + 1 < k → laws_FnFieldProducts.l1 k x5 x6 ((prods.getD i 0 : Nat) : Int) ((i + 1 : Nat) : Int) = some true := by
  induction f with
  | zero =>
    intro i k hi hk
    obtain ⟨k, rfl⟩ : ∃ m, k = m + 1 := ⟨k - 1, by omega⟩
    obtain rfl : i = 255 := by omega
    simp only [laws_FnFieldProducts.l1]
    rw [if_neg (by omega), if_pos (by rw [h]; simp)]
    rw [show prods.getD 255 0 = 1 by decide +kernel]
    rfl
  | succ f ih =>
    intro i k hi hk
    obtain ⟨k, rfl⟩ : ∃ m, k = m + 1 := ⟨k - 1, by omega⟩
    obtain ⟨h1, h2⟩ := prods_step ⟨i, by omega⟩
    dsimp only at h1 h2
    have hm : ((i + 1 : Nat) : Int) % 256 = ((i + 1 : Nat) : Int) := by omega
    have ew : wrap64 (((i + 1 : Nat) : Int) + 1) = ((i + 1 + 1 : Nat) : Int) := by rw [wrap64_id] <;> omega
    have ih' := ih (i + 1) k (by omega) (by omega)
    rw [← h2] at ih'
    simp only [laws_FnFieldProducts.l1]
    generalize prods.getD i 0 = p at *
    rw [if_pos (by omega), hm, mul_f p (i + 1) h1 (by omega), gm_eq p (i + 1) h1 (by omega), Option.bind_some, ew]
    exact ih'

theorem list_run (x : Nat) (hx : x < 256) (suf : List Nat) : ∀ (pre : List Nat) (p : Nat) (b : Bool) (k : Nat), (∀ n ∈ suf, n < 256) → p < 256 → (p = 0 ↔ b = true) → (pre ++ suf).length ≤ 300 → suf.length + 300 < k →
    laws_FnFieldProducts.l0 k (x : Int) (p : Int) b 1 ((pre ++ suf).map fun (n : Nat) => (n : Int)) (((pre ++ suf).map fun (n : Nat) => (n : Int)).length : Int) (pre.length : Int) = some true := by
  induction suf with
  | nil =>
    intro pre p b k _ hp hb _ hk
    obtain ⟨k, rfl⟩ : ∃ m, k = m + 1 := ⟨k - 1, by omega⟩
    have hr := all_run (p : Int) b (by
      rw [Bool.eq_iff_iff, beq_iff_eq, ← hb]; omega) 255 0 k (by omega) (by simp at hk; omega)
    simp only [laws_FnFieldProducts.l0]
    rw [if_neg (by simp)]
    exact hr
  | cons n suf ih =>
    intro pre p b k hs hp hb hl hk
    obtain ⟨k, rfl⟩ : ∃ m, k = m + 1 := ⟨k - 1, by omega⟩
    have hn := hs n (by simp)
    have hlt : (pre.length : Int) < (((pre ++ n :: suf).map fun (n : Nat) => (n : Int)).length : Int) := by simp; omega
    have hrd : rd ((pre ++ n :: suf).map fun (n : Nat) => (n : Int)) (pre.length : Int) = (n : Int) := by simp [rd]
    have ew : wrap64 ((pre.length : Int) + 1) = ((pre ++ [n]).length : Int) := by simp at hl ⊢; rw [wrap64_id] <;> omega
    have hx64 : x ^^^ n < 256 := Nat.xor_lt_two_pow (n := 8) hx hn
    have hz := gmul_zero p (x ^^^ n)
    rw [xor_zero_iff] at hz
    have key : ∀ c : Bool, (gmul p (x ^^^ n) = 0 ↔ c = true) → laws_FnFieldProducts.l0 k (x : Int) ((gmul p (x ^^^ n) : Nat) : Int) c 1 ((pre ++ n :: suf).map fun (n : Nat) => (n : Int)) (((pre ++ n :: suf).map fun (n : Nat) => (n : Int)).length : Int) ((pre ++ [n]).length : Int) = some true := by
      intro c hc
      have ih' := ih (pre ++ [n]) (gmul p (x ^^^ n)) c k (fun m hm => hs m (by simp [hm])) (gmul_lt _ _) hc (by simp at hl ⊢; omega) (by simp at hk; omega)
      rw [List.append_assoc, List.singleton_append] at ih'
      exact ih'
    simp only [laws_FnFieldProducts.l0]
    rw [if_pos hlt, if_pos (by omega), if_pos hlt, hrd, add_f x n hx hn, Option.bind_some, mul_f p _ hp hx64, Option.bind_some, ew]
    by_cases hbt : b = true
    · rw [if_pos hbt]
      exact key true (by rw [hz]; exact ⟨fun _ => rfl, fun _ => .inl (hb.2 hbt)⟩)
    · rw [if_neg hbt]
      refine key _ ?_
      rw [hz, beq_iff_eq]
      constructor
      · rintro (h | h)
        · exact absurd (hb.1 h) hbt
        · omega
      · intro h; right; omega

theorem FnFieldProducts : laws_FnFieldProducts.Pure := by
  intro l a hl1 hl2 hw wa
  obtain ⟨x, rfl, hx⟩ := wf_u8 a wa
  refine ⟨1000, ?_⟩
  unfold laws_FnFieldProducts.f
  by_cases h1 : (l.length : Int) > 2147483647
  · rw [if_pos h1]
  rw [if_neg h1]
  by_cases h2 : (l.length : Int) > 300
  · rw [if_pos h2]
  rw [if_neg h2]
  obtain ⟨ns, hns, rfl⟩ : ∃ ns : List Nat, (∀ n ∈ ns, n < 256) ∧ l = ns.map fun (n : Nat) => (n : Int) := by
    refine ⟨l.map Int.toNat, ?_, ?_⟩
    · intro n hn
      obtain ⟨y, hy, rfl⟩ := List.mem_map.1 hn
      obtain ⟨m, rfl, hm⟩ := wf_u8 y (hw y hy)
      exact hm
    · rw [List.map_map]
      symm
      refine (List.map_congr_left (g := id) fun y hy => ?_).trans (List.map_id l)
      obtain ⟨m, rfl, hm⟩ := wf_u8 y (hw y hy)
      rfl
  have hlen : ns.length ≤ 300 := by simp at h2; omega
  exact list_run x hx ns [] 1 false 1000 hns (by decide) (by simp) (by simpa using hlen) (by omega)
end Go.Proofs.YtpeikjnkbjabpaaDoor.Pure
