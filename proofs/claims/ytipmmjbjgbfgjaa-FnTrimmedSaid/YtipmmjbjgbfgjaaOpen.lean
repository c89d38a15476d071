/- A slice of structs or strings that came in, opened as a list of plain values: no conditions. -/
import Derived.Deep.Slices
import Derived.Test.YtipmmjbjgbfgjaaWWords
namespace Go.Proofs.YtipmmjbjgbfgjaaOpen
open Go.ChangeShapes Go.WideShapes Go.Deep Go.Proofs.YtipmmjbjgbfgjaaW.PrintWords
theorem open_kd {H : Type} {enc : TypeId × Value → H} {P : Program} {w : World} {base : Nat} {spare : Nat → Bool} {held : Bool} {α : Type} {d : Kd α} {Good : α → Prop} {t e : TypeId} {fuel : Nat} {A : Option Addr} {len cap : Nat} {x : DataW H × List MemPlace}
    (ht : P.underlying t = some (.slice e)) (hs : P.cellsOf e = d.sz)
    (one : ∀ (n : Nat) (cs : List Value) (y : DataW H × List MemPlace), DataW.trod enc P w base spare held n e cs = some y → ∃ x, d.K w x cs ∧ Good x)
    (h : DataW.trod enc P w base spare held fuel t [.slice A len cap] = some x) :
    ∃ xs : List α, len = xs.length ∧ d.C w A xs.length xs ∧ xs.length ≤ cap ∧ cap ≤ maxLen ∧ ∀ x ∈ xs, Good x := by
  rcases open_slice ht h with ⟨h1, _⟩ | ⟨a, len', cap', m, n, D, Pl, h1, hb, hl, hm, hmm, _, hx⟩
  · simp only [List.cons.injEq, Value.slice.injEq, and_true] at h1
    obtain ⟨rfl, rfl, rfl⟩ := h1
    exact ⟨[], rfl, ⟨rfl, by simp, fun h => by simp at h⟩, Nat.le_refl _, by simp [maxLen], fun x h => by simp at h⟩
  · simp only [List.cons.injEq, Value.slice.injEq, and_true] at h1
    obtain ⟨rfl, rfl, rfl⟩ := h1
    have hlm : len ≤ m := by rw [hmm]; split <;> omega
    have each : ∀ i, i < len → ∃ z : α, (∃ c, c.length = d.sz ∧ d.K w z c ∧ ∀ j u, c[j]? = some u → w.cell? (a.add (i * d.sz + j)) = some u) ∧ Good z := by
      intro i hi
      obtain ⟨cs, hc, ht2⟩ := hx i (by omega)
      obtain ⟨z, hz, hg⟩ := one _ _ _ ht2
      obtain ⟨_, hcl, hcell⟩ := World.cells?_some hc
      refine ⟨z, ⟨cs, hcl.trans hs, hz, fun j u hj => ?_⟩, hg⟩
      have hjl : j < cs.length := (List.getElem?_eq_some_iff.1 hj).1
      have := hcell j (by omega)
      rw [hs, Go.Deep.add_add] at this
      rw [this, hj]
    by_cases hz : len = 0
    · subst hz
      exact ⟨[], rfl, ⟨rfl, by simp, fun h => by simp at h⟩, Nat.zero_le _, hm, fun x h => by simp at h⟩
    · obtain ⟨z0, _⟩ := each 0 (by omega)
      obtain ⟨f, hf⟩ : ∃ f : Nat → α, ∀ i, i < len → (∃ c, c.length = d.sz ∧ d.K w (f i) c ∧ ∀ j u, c[j]? = some u → w.cell? (a.add (i * d.sz + j)) = some u) ∧ Good (f i) := by
        haveI : Inhabited α := ⟨z0⟩
        exact choose_lt each
      have hlen : ((List.range len).map f).length = len := by simp
      refine ⟨(List.range len).map f, hlen.symm, ⟨rfl, ?_, fun _ => ⟨a, rfl, fun j p hj => ?_⟩⟩, by omega, hm, fun x h => ?_⟩
      · rw [hlen]; unfold maxLen at hm; omega
      · have hj2 := (List.getElem?_eq_some_iff.1 hj).1
        rw [hlen] at hj2
        have : p = f j := by
          simp [List.getElem?_map, List.getElem?_range hj2] at hj
          exact hj.symm
        subst this
        exact (hf j hj2).1
      · obtain ⟨j, hj, rfl⟩ := List.mem_map.1 h
        exact (hf j (List.mem_range.1 hj)).2
theorem one_string {H : Type} {enc : TypeId × Value → H} {P : Program} {w : World} {base : Nat} {spare : Nat → Bool} {held : Bool} {e : TypeId} (he : P.underlying e = some .string)
    (n : Nat) (cs : List Value) (y : DataW H × List MemPlace) (h : DataW.trod enc P w base spare held n e cs = some y) : ∃ x : ByteArray, Kd.string.K w x cs ∧ x.size ≤ maxLen := by
  obtain ⟨s, rfl, _, hw⟩ := DataW.trod_string he h
  exact ⟨s, rfl, hw⟩
theorem one_int {H : Type} {enc : TypeId × Value → H} {P : Program} {w : World} {base : Nat} {spare : Nat → Bool} {held : Bool} {e : TypeId} {k : IntKind} (he : P.underlying e = some (.int k))
    (n : Nat) (cs : List Value) (y : DataW H × List MemPlace) (h : DataW.trod enc P w base spare held n e cs = some y) : ∃ x : Int, (Kd.int k).K w x cs ∧ (Lit.int k x).wf = true := by
  obtain ⟨s, rfl, _, hw⟩ := DataW.trod_int he h
  exact ⟨s, rfl, hw⟩
end Go.Proofs.YtipmmjbjgbfgjaaOpen
