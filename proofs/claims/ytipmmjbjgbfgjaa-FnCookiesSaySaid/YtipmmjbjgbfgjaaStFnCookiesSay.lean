-- The pure statement of FnCookiesSay, and what opens its arguments (by lawrow.py of this session).
import Derived.Test.YtipmmjbjgbfgjaaQ17
import Derived.Test.YtipmmjbjgbfgjaaOpen
import Derived.ChangeSame
namespace Go.Proofs.Ytipmmjbjgbfgjaa.StFnCookiesSay
open Go.RowKit Go.ChangeShapes Go.WideShapes Go.Proofs.Ytipmmjbjgbfgjaa.Q Go.Proofs.YtipmmjbjgbfgjaaW.PrintWords Go.Proofs.YtipmmjbjgbfgjaaW.PrintLast
set_option linter.unusedVariables false
set_option linter.unusedSimpArgs false
set_option maxRecDepth 100000
theorem one40 {H : Type} {enc : TypeId × Value → H} {w : World} {base : Nat} {spare : Nat → Bool} {held : Bool} (n : Nat) (cs : List Value) (y : DataW H × List MemPlace)
    (h : DataW.trod enc Try.prog w base spare held n 40 cs = some y) : ∃ x : S40, k40.K w x cs ∧ (x.f0.size ≤ maxLen) ∧ (x.f1.size ≤ maxLen) := by
  obtain ⟨xs, m, _, _, hl, hlen, hf⟩ := DataW.trod_struct Try.underlying40 h
  have hc : Try.prog.cellsOf 40 = 3 := by kernel_rfl
  rw [hc] at hl
  have c_4 : Try.prog.cellsOf 4 = 1 := by kernel_rfl
  have c_9 : Try.prog.cellsOf 9 = 1 := by kernel_rfl
  match cs, hl with
  | [c0, c1, c2], _ =>
    match xs, hlen with
    | [y0, y1, y2], _ =>
      have g0 : DataW.trod enc Try.prog w base spare held m 9 (List.take (Try.prog.cellsOf 9) (List.drop 0 [c0, c1, c2])) = some y0 := hf 0 _ rfl
      rw [c_9] at g0
      have h0 : DataW.trod enc Try.prog w base spare held m 9 [c0] = some y0 := g0
      clear g0
      have g1 : DataW.trod enc Try.prog w base spare held m 9 (List.take (Try.prog.cellsOf 9) (List.drop 1 [c0, c1, c2])) = some y1 := hf 1 _ rfl
      rw [c_9] at g1
      have h1 : DataW.trod enc Try.prog w base spare held m 9 [c1] = some y1 := g1
      clear g1
      have g2 : DataW.trod enc Try.prog w base spare held m 4 (List.take (Try.prog.cellsOf 4) (List.drop 2 [c0, c1, c2])) = some y2 := hf 2 _ rfl
      rw [c_4] at g2
      have h2 : DataW.trod enc Try.prog w base spare held m 4 [c2] = some y2 := g2
      clear g2
      obtain ⟨x0, e0, _, z0⟩ := DataW.trod_string Try.underlying9 h0
      obtain rfl : c0 = .string x0 := by simpa using e0
      obtain ⟨x1, e1, _, z1⟩ := DataW.trod_string Try.underlying9 h1
      obtain rfl : c1 = .string x1 := by simpa using e1
      obtain ⟨x2, e2, _⟩ := DataW.trod_bool Try.underlying4 h2
      obtain rfl : c2 = .bool x2 := by simpa using e2
      exact ⟨⟨x0, x1, x2⟩, k40_mk w ⟨x0, x1, x2⟩, ⟨z0, z1⟩⟩
def Pure : Prop := ∀ (a0 : ByteArray) (l1 : List (S40)), a0.size ≤ 140737488351232 → l1.length ≤ maxLen → (∀ x ∈ l1, (x.f0.size ≤ maxLen) ∧ (x.f1.size ≤ maxLen)) → ∃ k, laws_FnCookiesSay.f k a0 l1 = some true
end Go.Proofs.Ytipmmjbjgbfgjaa.StFnCookiesSay
