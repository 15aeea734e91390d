import Derived.Test.YtijldedhcjkhiaaDoorSSS7
namespace Go.Proofs.YtijldedhcjkhiaaDoor.S
open Go.RowKit Go.Proofs.YtijldedhcjkhiaaDoorW.PrintWords Go.Proofs.YtijldedhcjkhiaaDoorW.PrintLast Go.Proofs.YtijldedhcjkhiaaDoorW.PrintMore
set_option linter.unusedVariables false
theorem for_ev {σ ρ : Type} (l : Nat → σ → Int → Option ρ) (n : Nat) (s : Nat → σ) (r : ρ) (fin : Ev (fun k => l k (s n) (n : Int)) r)
    (step : ∀ i, i < n → Ev (fun k => l k (s (i + 1)) ((i + 1 : Nat) : Int)) r → Ev (fun k => l k (s i) (i : Int)) r) : ∀ d i, i + d = n → Ev (fun k => l k (s i) (i : Int)) r := by
  intro d
  induction d with
  | zero => intro i hi; obtain rfl : i = n := by omega
            exact fin
  | succ d ih => intro i hi; exact step i (by omega) (ih (i + 1) (by omega))
theorem for_ev0 {σ ρ : Type} (l : Nat → σ → Int → Option ρ) (n : Nat) (s : Nat → σ) (r : ρ) (fin : Ev (fun k => l k (s n) (n : Int)) r)
    (step : ∀ i, i < n → Ev (fun k => l k (s (i + 1)) ((i + 1 : Nat) : Int)) r → Ev (fun k => l k (s i) (i : Int)) r) : Ev (fun k => l k (s 0) 0) r := for_ev l n s r fin step n 0 (by omega)
theorem Ev.at {α : Type} {g : Nat → Option α} {r : α} (h : Ev g r) : Ev (fun k => g (k + 1)) r := by
  obtain ⟨K, h⟩ := h
  exact ⟨K, fun k hk => h (k + 1) (by omega)⟩
theorem Ev.now1 {α : Type} {g : Nat → Option α} {r : α} (h : ∀ k, g (k + 1) = some r) : Ev g r := Ev.step (f := fun _ => some r) h (Ev.now r)
theorem wr1 (n : Nat) (h : n < 4611686018427387904) : wrap64 ((n : Int) + 1) = ((n + 1 : Nat) : Int) := by unfold wrap64; omega
def tab {α : Type} (n : Nat) (f : Nat → α) : List α := (List.range n).map f
end Go.Proofs.YtijldedhcjkhiaaDoor.S
