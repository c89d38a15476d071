-- The pure statement of FnParamSays, and what opens its arguments (by lawrow.py of this session).
import Derived.Test.YtjmcndbkmknemaaQ5
import Derived.Test.YtjmcndbkmknemaaOpen
import Derived.ChangeSame
namespace Go.Proofs.Ytjmcndbkmknemaa.StFnParamSays
open Go.RowKit Go.ChangeShapes Go.WideShapes Go.Proofs.Ytjmcndbkmknemaa.Q Go.Proofs.YtjmcndbkmknemaaW.PrintWords Go.Proofs.YtjmcndbkmknemaaW.PrintLast
set_option linter.unusedVariables false
set_option linter.unusedSimpArgs false
theorem one27 {H : Type} {enc : TypeId × Value → H} {w : World} {base : Nat} {spare : Nat → Bool} {held : Bool} (n : Nat) (cs : List Value) (y : DataW H × List MemPlace)
    (h : DataW.trod enc Try.prog w base spare held n 27 cs = some y) : ∃ x : S27, k27.K w x cs ∧ (x.f0.size ≤ maxLen) ∧ (x.f1.size ≤ maxLen) := by
  obtain ⟨xs, m, _, _, hl, hlen, hf⟩ := DataW.trod_struct Try.underlying27 h
  have hc : Try.prog.cellsOf 27 = 2 := by kernel_rfl
  rw [hc] at hl
  have c_9 : Try.prog.cellsOf 9 = 1 := by kernel_rfl
  match cs, hl with
  | [c0, c1], _ =>
    match xs, hlen with
    | [y0, y1], _ =>
      have g0 : DataW.trod enc Try.prog w base spare held m 9 (List.take (Try.prog.cellsOf 9) (List.drop 0 [c0, c1])) = some y0 := hf 0 _ rfl
      rw [c_9] at g0
      have h0 : DataW.trod enc Try.prog w base spare held m 9 [c0] = some y0 := g0
      clear g0
      have g1 : DataW.trod enc Try.prog w base spare held m 9 (List.take (Try.prog.cellsOf 9) (List.drop 1 [c0, c1])) = some y1 := hf 1 _ rfl
      rw [c_9] at g1
      have h1 : DataW.trod enc Try.prog w base spare held m 9 [c1] = some y1 := g1
      clear g1
      obtain ⟨x0, e0, _, z0⟩ := DataW.trod_string Try.underlying9 h0
      obtain rfl : c0 = .string x0 := by simpa using e0
      obtain ⟨x1, e1, _, z1⟩ := DataW.trod_string Try.underlying9 h1
      obtain rfl : c1 = .string x1 := by simpa using e1
      exact ⟨⟨x0, x1⟩, k27_mk w ⟨x0, x1⟩, ⟨z0, z1⟩⟩
def Pure : Prop := ∀ (l0 : List (S27)) (a1 : ByteArray), l0.length ≤ maxLen → (∀ x ∈ l0, (x.f0.size ≤ maxLen) ∧ (x.f1.size ≤ maxLen)) → a1.size ≤ 140737488351232 → ∃ k, laws_FnParamSays.f k l0 a1 = some true
end Go.Proofs.Ytjmcndbkmknemaa.StFnParamSays
