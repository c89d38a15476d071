/- The pure statement of FnLetters: letters are turned, bytes as texts; two texts are alike just where they are in small letters. -/
import Derived.Test.YtipmmjbjgbfgjaaQ16
import Derived.Test.YtipmmjbjgbfgjaaSpLetB
import Derived.Test.YtipmmjbjgbfgjaaSpTxt
namespace Go.Proofs.Ytipmmjbjgbfgjaa.Pure
open Go.RowKit Go.Proofs.Ytipmmjbjgbfgjaa.Q Go.Proofs.YtipmmjbjgbfgjaaW.PrintWords Go.Proofs.YtipmmjbjgbfgjaaW.PrintLast Go.Proofs.YtipmmjbjgbfgjaaKit Go.Proofs.Ytipmmjbjgbfgjaa.SpA
set_option linter.unusedVariables false
set_option linter.unusedSimpArgs false
theorem FnLetters : laws_FnLetters.Pure := by
  intro a b ha hb
  refine Ev.rounds ?_
  unfold laws_FnLetters.f
  have jt : Ev (fun k => laws_FnLetters.j0 k a b true) true := Ev.step (f := fun _ => some true) (fun k => by simp only [laws_FnLetters.j0]; rw [if_pos trivial]) (Ev.now _)
  by_cases h : (a.size : Int) > 2147483647
  · exact Ev.pos h jt
  refine Ev.neg h ?_
  by_cases h2 : (b.size : Int) > 2147483647
  · rw [decide_eq_true h2]; exact jt
  rw [decide_eq_false h2]
  refine Ev.step (fun k => by simp only [laws_FnLetters.j0]; rw [if_neg (by decide)]) (Ev.call lowers_eq (Ev.pos rfl ?_))
  have hsh : Ev (fun k => laws_short.f k [a, b]) (([a, b] : List ByteArray).all (fun s => decide (s.size ≤ 2000)) && decide (([a, b] : List ByteArray).length ≤ 60)) := short_l [a, b] [a, b] (by simp) [a, b] [] rfl
  refine Ev.call hsh ?_
  cases (([a, b] : List ByteArray).all (fun s => decide (s.size ≤ 2000)) && decide (([a, b] : List ByteArray).length ≤ 60)) with
  | false => exact Ev.neg (by simp) (Ev.now _)
  | true =>
    have LB : ∀ l : List UInt8, L (bl l) = l := fun l => by simp [L, bl]
    have hl : laws_low.f a = some (bl ((L a).map lowB)) := by unfold laws_low.f; rw [if_pos (by omega)]
    refine Ev.pos rfl (Ev.call (Ev.some (lower_eq a (by omega))) (Ev.call (Ev.some (upper_eq a (by omega))) (Ev.call (Ev.some hl) (Ev.pos rfl ?_))))
    refine Ev.call (Ev.some (upper_eq _ (by rw [bl_size, List.length_map, ← size_L]; omega))) (Ev.pos (by rw [tl, tl, LB, LB, LB, map_upp_low]) ?_)
    refine Ev.call (Ev.some (lower_eq _ (by rw [bl_size, List.length_map, ← size_L]; omega))) (Ev.pos (by rw [tl, tl, LB, LB, LB, map_low_upp]) ?_)
    refine Ev.call (fold_eq a b (by omega) (by omega)) (Ev.call (Ev.some (lower_eq b (by omega))) ?_)
    have e1 : (foldB (L a) (L b) != ((bl ((L a).map lowB)).toList == (bl ((L b).map lowB)).toList)) = false := by
      rw [tl, tl, LB, LB]
      unfold foldB
      by_cases c : (L a).map uppB = (L b).map uppB
      · rw [decide_eq_true c, (fold_iff _ _).1 c]; simp
      · rw [decide_eq_false c]
        have : ¬ (L a).map lowB = (L b).map lowB := fun e => c ((fold_iff _ _).2 e)
        simp [this]
    rw [e1]
    refine Ev.step (fun k => by simp only [laws_FnLetters.j1]; rw [if_neg (by decide)]) ?_
    have cv : ∀ s : ByteArray, s.size ≤ 2147483647 → conv24.f s = some (toI (L s)) := fun s hs => by unfold conv24.f; rw [if_pos (by omega)]; rfl
    refine Ev.call (Ev.some (cv a (by omega))) (Ev.call (lowerBytes (L a) (by rw [← size_L]; omega)) (Ev.pos (by rw [tl, tl, L_strOf, LB]) ?_))
    refine Ev.call (Ev.some (cv a (by omega))) (Ev.call (upperBytes (L a) (by rw [← size_L]; omega)) (Ev.pos (by rw [tl, tl, L_strOf, LB]) ?_))
    refine Ev.call (Ev.some (cv a (by omega))) (Ev.call (Ev.some (cv b (by omega))) (Ev.call (foldBytes (L a) (L b) (by rw [← size_L]; omega)) (Ev.call (fold_eq a b (by omega) (by omega)) (Ev.same (Ev.now _) (by simp)))))
end Go.Proofs.Ytipmmjbjgbfgjaa.Pure
