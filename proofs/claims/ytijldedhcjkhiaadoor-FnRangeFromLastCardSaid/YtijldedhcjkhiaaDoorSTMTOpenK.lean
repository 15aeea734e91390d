import Derived.Test.YtijldedhcjkhiaaDoorSTT0
import Derived.Deep.Slices
import Derived.ChangeSame
import Derived.ChangeArms
import Derived.WideShapes
namespace Go.Proofs.YtijldedhcjkhiaaDoor.OpenK
open Go.RowKit Go.Proofs.YtijldedhcjkhiaaDoorW.PrintWords Go.ChangeShapes Go.WideShapes Go.Deep
structure Opens (P : Program) {α : Type} (d : Kd α) (t : TypeId) (Wf : α → Prop) : Prop where
  out : ∀ {H : Type} {enc : TypeId × Value → H} {w : World} {base : Nat} {spare : Nat → Bool} {held : Bool} {fuel : Nat} {cs : List Value} {x : DataW H × List MemPlace},
    DataW.trod enc P w base spare held fuel t cs = some x → ∃ a, d.K w a cs ∧ Wf a
theorem opens_int {P : Program} {t : TypeId} {k : IntKind} (ht : P.underlying t = some (.int k)) : Opens P (Kd.int k) t (fun n => (Lit.int k n).wf = true) :=
  ⟨fun h => by
    obtain ⟨m, rfl, _, hw⟩ := DataW.trod_int ht h
    exact ⟨m, rfl, hw⟩⟩
theorem list_of {α : Type} {p : Nat → α → Prop} : ∀ n, (∀ i, i < n → ∃ y, p i y) → ∃ xs : List α, xs.length = n ∧ ∀ j y, xs[j]? = some y → p j y := by
  intro n
  induction n with
  | zero => intro _; exact ⟨[], rfl, fun j y h => by simp at h⟩
  | succ n ih =>
    intro h
    obtain ⟨xs, hl, hx⟩ := ih (fun i hi => h i (by omega))
    obtain ⟨y, hy⟩ := h n (by omega)
    refine ⟨xs ++ [y], by simp [hl], fun j z hj => ?_⟩
    rcases Nat.lt_or_ge j xs.length with hlt | hge
    · rw [List.getElem?_append_left hlt] at hj
      exact hx j z hj
    · have hlen := (List.getElem?_eq_some_iff.1 hj).1
      rw [List.length_append, List.length_singleton] at hlen
      have e : j = xs.length := by omega
      subst e
      have : y = z := by simpa using hj
      subst this
      rw [hl]
      exact hy
theorem opens_slice {P : Program} {α : Type} {d : Kd α} {t e : TypeId} {Wf : α → Prop} (ht : P.underlying t = some (.slice e)) (hc : P.cellsOf e = d.sz) (hd : Opens P d e Wf) :
    Opens P (Kd.slice e d) t (fun xs => xs.length ≤ maxLen ∧ ∀ y ∈ xs, Wf y) :=
  ⟨fun {H enc w base spare held fuel cs x} h => by
    rcases open_slice ht h with ⟨rfl, _⟩ | ⟨a, len, cap, m, n, D, Pl, rfl, hb, hl, hm, hmm, _, hx⟩
    · exact ⟨[], ⟨none, 0, rfl, Nat.le_refl _, ⟨rfl, Nat.zero_le _, fun h => absurd h (Nat.lt_irrefl _)⟩⟩, Nat.zero_le _, fun y hy => by cases hy⟩
    · have hlm : len ≤ m := by rw [hmm]; split <;> omega
      have each : ∀ i, i < len → ∃ y, (∃ c, w.cells? base (a.add (i * d.sz)) d.sz = some c ∧ d.K w y c) ∧ Wf y := by
        intro i hi
        obtain ⟨c, h1, h2⟩ := hx i (by omega)
        obtain ⟨y, hy, hw⟩ := hd.out h2
        rw [hc] at h1
        exact ⟨y, ⟨c, h1, hy⟩, hw⟩
      obtain ⟨xs, hlen, hxs⟩ := list_of len each
      subst hlen
      have hml : maxLen ≤ 9223372036854775807 := by decide
      refine ⟨xs, ⟨some a, cap, rfl, hl, ⟨rfl, by omega, fun _ => ⟨a, rfl, fun j y hj => ?_⟩⟩⟩, by omega, fun y hy => ?_⟩
      · obtain ⟨⟨c, h1, h2⟩, _⟩ := hxs j y hj
        obtain ⟨_, hcl, hcell⟩ := World.cells?_some h1
        refine ⟨c, hcl, h2, fun i u hu => ?_⟩
        have hi : i < d.sz := by have := (List.getElem?_eq_some_iff.1 hu).1; omega
        rw [← Addr.add_add, hcell i hi, hu]
      · obtain ⟨i, hi⟩ := List.getElem?_of_mem hy
        exact (hxs i y hi).2⟩
inductive OpensL (P : Program) : {α : Type} → Kd α → List Field → (α → Prop) → Prop
  | one {α : Type} {d : Kd α} {f : Field} {Wf : α → Prop} (hd : Opens P d f.type Wf) (hc : P.cellsOf f.type = d.sz) : OpensL P d [f] Wf
  | cons {α β : Type} {d : Kd α} {e : Kd β} {f : Field} {fs : List Field} {Wf : α → Prop} {Wg : β → Prop} (hd : Opens P d f.type Wf) (hc : P.cellsOf f.type = d.sz) (ht : OpensL P e fs Wg) :
      OpensL P (Kd.pair d e) (f :: fs) (fun x => Wf x.1 ∧ Wg x.2)
def laid (P : Program) : List Field → Nat → Bool
  | [], _ => true
  | f :: fs, o => f.offset == o && laid P fs (o + P.cellsOf f.type)
theorem opens_fields {P : Program} {α : Type} {d : Kd α} {fs : List Field} {Wf : α → Prop} (h : OpensL P d fs Wf) {H : Type} {enc : TypeId × Value → H} {w : World} {base : Nat} {spare : Nat → Bool} {held : Bool} {n : Nat} {cs : List Value} :
    ∀ o, laid P fs o = true → (∀ (i : Nat) (f : Field), fs[i]? = some f → ∃ y, DataW.trod enc P w base spare held n f.type ((cs.drop f.offset).take (P.cellsOf f.type)) = some y) → cs.length = o + d.sz → ∃ a, d.K w a (cs.drop o) ∧ Wf a := by
  induction h with
  | one hd hc =>
    intro o ho hf hl
    obtain ⟨y, hy⟩ := hf 0 _ rfl
    obtain ⟨a, ha, hw⟩ := hd.out hy
    simp only [laid, Bool.and_true, beq_iff_eq] at ho
    rw [ho, hc, List.take_of_length_le (by rw [List.length_drop]; omega)] at ha
    exact ⟨a, ha, hw⟩
  | @cons α β d e f fs Wf Wg hd hc ht ih =>
    intro o ho hf hl
    obtain ⟨y, hy⟩ := hf 0 _ rfl
    obtain ⟨a, ha, hw⟩ := hd.out hy
    simp only [laid, Bool.and_eq_true, beq_iff_eq] at ho
    rw [ho.1, hc] at ha
    have hl' : cs.length = o + (d.sz + e.sz) := hl
    obtain ⟨b, hb, hwb⟩ := ih (o + P.cellsOf f.type) ho.2 (fun i f hi => hf (i + 1) f hi) (by rw [hc]; omega)
    rw [hc] at hb
    refine ⟨(a, b), ⟨_, _, ?_, ha, hb⟩, hw, hwb⟩
    rw [← List.drop_drop]
    exact (List.take_append_drop _ _).symm
theorem opens_struct {P : Program} {α : Type} {d : Kd α} {t : TypeId} {fs : List Field} {Wf : α → Prop} (ht : P.underlying t = some (.struct fs.toArray)) (hc : P.cellsOf t = d.sz) (hd : OpensL P d fs Wf) (ho : laid P fs 0 = true) : Opens P d t Wf :=
  ⟨fun {H enc w base spare held fuel cs x} h => by
    obtain ⟨xs, n, _, _, hl, hlen, hf⟩ := DataW.trod_struct ht h
    have hl' : xs.length = fs.length := by simpa using hlen
    obtain ⟨a, ha, hw⟩ := opens_fields hd (enc := enc) (w := w) (base := base) (spare := spare) (held := held) (n := n) (cs := cs) 0 ho (fun i f hi => by
      have hi' : i < xs.length := by have := (List.getElem?_eq_some_iff.1 hi).1; omega
      exact ⟨xs[i], by rw [hf i f (by simpa using hi), List.getElem?_eq_getElem hi']⟩) (by rw [hl, hc]; omega)
    exact ⟨a, by simpa using ha, hw⟩⟩
theorem okWide_agg {P : Program} {w : World} {r : Reach} {base : Nat} {t : TypeId} {v : Value} {fs : Array Field} (ht : P.underlying t = some (.struct fs)) (h : Value.okWide P w r base t v) : ∃ cs, v = .agg cs := by
  simp only [Value.okWide, ht] at h
  obtain ⟨cs, rfl, _⟩ := h
  exact ⟨cs, rfl⟩
theorem agg_of {cs : Array Value} {l : List Value} (h : (Value.agg cs).cells.toList = l) : cs = l.toArray := by
  have h2 : cs.toList = l := h
  rw [← h2]
theorem slice_of {A B : Option Addr} {n m c k : Nat} (h : (Value.slice A n c).cells.toList = [.slice B m k]) : A = B ∧ n = m ∧ c = k := by
  simpa [Value.cells] using h
end Go.Proofs.YtijldedhcjkhiaaDoor.OpenK
