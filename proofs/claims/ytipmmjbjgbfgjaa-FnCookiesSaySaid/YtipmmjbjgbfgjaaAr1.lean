/- Arguments laid in a block of three cells each: what is read of it and written into it; a pair of key and value that is read. -/
import Derived.Test.YtipmmjbjgbfgjaaKit
import Derived.Test.YtipmmjbjgbfgjaaQ0
import Derived.Test.YtipmmjbjgbfgjaaX
import Derived.WalkSpells
import Derived.StillTailTactics
namespace Go.Proofs.Ytipmmjbjgbfgjaa.Q
open Go.RowKit Go.Proofs.YtipmmjbjgbfgjaaW.PrintWords Go.Proofs.YtipmmjbjgbfgjaaW.PrintLast Go.Proofs.YtipmmjbjgbfgjaaW.PrintMore
set_option linter.unusedVariables false
set_option linter.unusedSimpArgs false
structure AE where
  k : Value
  v : Value
  b : Bool
def aeZ : AE := ⟨.slice none 0 0, .slice none 0 0, false⟩
/-- A block of arguments. -/
def AB (w : World) (g : Nat) (es : List AE) : Prop := ∃ C : Array Value, w.heap[g]? = some (.cells C 86 (0, 0)) ∧ C.size = 3 * es.length ∧ ∀ i (h : i < es.length), C[3 * i]? = some es[i].k ∧ C[3 * i + 1]? = some es[i].v ∧ C[3 * i + 2]? = some (.bool es[i].b)
theorem addr_add' (g k j : Nat) : (⟨g, k, none⟩ : Addr).add j = ⟨g, k + j, none⟩ := by unfold Addr.add; by_cases hj : j = 0 <;> simp [hj]
section
variable {w w' : World} {g : Nat} {es : List AE}
theorem AB.lt (h : AB w g es) : g < w.heap.size := by obtain ⟨C, hC, _⟩ := h; exact (Array.getElem?_eq_some_iff.1 hC).1
theorem AB.heap (h : AB w g es) (e : w'.heap = w.heap) : AB w' g es := by unfold AB; rw [e]; exact h
theorem AB.move (h : AB w g es) (e : w'.heap[g]? = w.heap[g]?) : AB w' g es := by unfold AB; rw [e]; exact h
theorem AB.below (h : AB w g es) (hb : Below w.heap.size w w') : AB w' g es := h.move (hb.block g h.lt)
theorem AB.alloc (h : AB w g es) (o : Obj) : AB (w.alloc o) g es := h.move (Below.heap_alloc w o g h.lt)
theorem AB.far (h : AB w g es) {a : Addr} (ha : a.block ≠ g) (u : Value) : AB (w.setCell a u) g es := h.move (Below.heap_setCell w a u g (fun e => ha e.symm))
theorem AB.cellK (h : AB w g es) (n o : Nat) (ho : o = 3 * n) (hn : n < es.length) : w.cell? ⟨g, o, none⟩ = some es[n].k := by
  obtain ⟨C, hC, hs, hc⟩ := h
  unfold World.cell?; rw [hC, ho]; exact (hc n hn).1
theorem AB.cellV (h : AB w g es) (n o : Nat) (ho : o = 3 * n) (hn : n < es.length) : w.cell? ⟨g, o + 1, none⟩ = some es[n].v := by
  obtain ⟨C, hC, hs, hc⟩ := h
  unfold World.cell?; rw [hC, ho]; exact (hc n hn).2.1
theorem AB.cellB (h : AB w g es) (n o : Nat) (ho : o = 3 * n) (hn : n < es.length) : w.cell? ⟨g, o + 2, none⟩ = some (.bool es[n].b) := by
  obtain ⟨C, hC, hs, hc⟩ := h
  unfold World.cell?; rw [hC, ho]; exact (hc n hn).2.2
theorem AB.fz (h : AB w g es) (j : Nat) : w.frozen? ⟨g, j, none⟩ = false := by obtain ⟨C, hC, _⟩ := h; unfold World.frozen?; rw [hC]; simp
theorem AB.set (h : AB w g es) (n j : Nat) (u : Value) (e' : AE) (hj : j < 3) (hn : n < es.length)
    (h0 : e'.k = if j = 0 then u else es[n].k) (h1 : e'.v = if j = 1 then u else es[n].v) (h2 : Value.bool e'.b = if j = 2 then u else .bool es[n].b) :
    AB (w.setCell ⟨g, 3 * n + j, none⟩ u) g (es.set n e') := by
  obtain ⟨C, hC, hs, hc⟩ := h
  refine ⟨C.setIfInBounds (3 * n + j) u, ?_, by simpa using hs, fun i hi => ?_⟩
  · simp only [World.setCell, Array.getElem?_modify, if_pos]
    rw [hC]
    rfl
  · rw [List.length_set] at hi
    obtain ⟨a0, a1, a2⟩ := hc i hi
    by_cases hin : i = n
    · subst hin
      simp only [List.getElem_set_self]
      rw [Array.getElem?_setIfInBounds, Array.getElem?_setIfInBounds, Array.getElem?_setIfInBounds, h0, h1, h2]
      refine ⟨?_, ?_, ?_⟩
      · by_cases e0 : j = 0
        · subst e0; rw [if_pos (by omega), if_pos (by omega), if_pos rfl]
        · rw [if_neg (by omega), if_neg e0]; exact a0
      · by_cases e1 : j = 1
        · subst e1; rw [if_pos (by omega), if_pos (by omega), if_pos rfl]
        · rw [if_neg (by omega), if_neg e1]; exact a1
      · by_cases e2 : j = 2
        · subst e2; rw [if_pos (by omega), if_pos (by omega), if_pos rfl]
        · rw [if_neg (by omega), if_neg e2]; exact a2
    · rw [List.getElem_set_ne (fun e => hin e.symm), Array.getElem?_setIfInBounds, Array.getElem?_setIfInBounds, Array.getElem?_setIfInBounds, if_neg (by omega), if_neg (by omega), if_neg (by omega)]
      exact ⟨a0, a1, a2⟩
theorem AB.setK (h : AB w g es) (n o : Nat) (ho : o = 3 * n) (hn : n < es.length) (u : Value) : AB (w.setCell ⟨g, o, none⟩ u) g (es.set n ⟨u, es[n].v, es[n].b⟩) := by
  subst ho
  exact AB.set h n 0 u ⟨u, es[n].v, es[n].b⟩ (by omega) hn rfl rfl rfl
theorem AB.setV (h : AB w g es) (n o : Nat) (ho : o = 3 * n) (hn : n < es.length) (u : Value) : AB (w.setCell ⟨g, o + 1, none⟩ u) g (es.set n ⟨es[n].k, u, es[n].b⟩) := by
  subst ho
  exact AB.set h n 1 u ⟨es[n].k, u, es[n].b⟩ (by omega) hn rfl rfl rfl
theorem AB.setB (h : AB w g es) (n o : Nat) (ho : o = 3 * n) (hn : n < es.length) (b : Bool) : AB (w.setCell ⟨g, o + 2, none⟩ (.bool b)) g (es.set n ⟨es[n].k, es[n].v, b⟩) := by
  subst ho
  exact AB.set h n 2 (.bool b) ⟨es[n].k, es[n].v, b⟩ (by omega) hn rfl rfl rfl
end
/-- A block of one cell. -/
def OB (w : World) (g : Nat) (t : TypeId) (v : Value) : Prop := w.heap[g]? = some (.cells #[v] t (0, 0))
section
variable {w w' : World} {g : Nat} {t : TypeId} {v u : Value}
theorem OB.lt (h : OB w g t v) : g < w.heap.size := (Array.getElem?_eq_some_iff.1 h).1
theorem OB.move (h : OB w g t v) (e : w'.heap[g]? = w.heap[g]?) : OB w' g t v := e.trans h
theorem OB.c0 (h : OB w g t v) : w.cell? ⟨g, 0, none⟩ = some v := by unfold World.cell?; rw [h]; rfl
theorem OB.fz (h : OB w g t v) (j : Nat) : w.frozen? ⟨g, j, none⟩ = false := by unfold World.frozen?; rw [h]; simp
theorem OB.set (h : OB w g t v) (x : Value) : OB (w.setCell ⟨g, 0, none⟩ x) g t x := by
  unfold OB at h ⊢
  simp only [World.setCell, Array.getElem?_modify, if_pos]
  rw [h]
  rfl
end
theorem cutUp {P : Program} {t e : TypeId} {i : TypeInfo} (ht : P.underlying t = some (.slice e)) (hi : P.info? e = some i) (A : Option Addr) (m c n : Nat) (x : Int) (hx : x = (n : Int)) (hn : n ≤ c) :
    ∀ W : World, (Instr.slice t (.slice A m c) none (some (.int .i64 x)) none).run P W = .ok (.slice A n c) W := by
  intro W
  have hel : P.elem t = e := by simp [Program.elem, ht]
  have hu : P.underlying t = some (.slice (P.elem t)) := by rw [hel]; exact ht
  have ha : (A.map fun x => x.add 0) = A := by cases A <;> simp [Addr.add]
  rw [run_slice_h W t A m c hu .i64 x (by omega) (by omega), hel]
  simp [sizeOf, typeInfo, hi, sliced, Result.andThen, ha, hx]
end Go.Proofs.Ytipmmjbjgbfgjaa.Q
