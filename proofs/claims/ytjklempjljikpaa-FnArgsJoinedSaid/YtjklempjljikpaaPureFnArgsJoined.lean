/- The pure statement of FnArgsJoined: the arguments of two queries with an ampersand between are those of both. -/
import Derived.Test.YtjklempjljikpaaQ26
import Derived.Test.YtjklempjljikpaaSpAr
namespace Go.Proofs.Ytjklempjljikpaa.Pure
open Go.RowKit Go.Proofs.Ytjklempjljikpaa.Q Go.Proofs.YtjklempjljikpaaW.PrintWords Go.Proofs.YtjklempjljikpaaW.PrintLast Go.Proofs.YtjklempjljikpaaKit Go.Proofs.Ytjklempjljikpaa.SpA
set_option linter.unusedVariables false
set_option linter.unusedSimpArgs false
theorem short2 (a b : ByteArray) : Ev (fun k => laws_short.f k [a, b]) (decide (a.size ≤ 2000) && decide (b.size ≤ 2000)) :=
  Ev.same (short_l [a, b] [a, b] (by simp) [a, b] [] rfl) (by simp)
theorem joined_true (a b : ByteArray) : Ev (fun k => laws_FnArgsJoined.j0 k a b true) true :=
  Ev.step (f := fun _ => some true) (fun k => by rw [laws_FnArgsJoined.j0, if_pos rfl]) (Ev.now _)
theorem joined_false (a b : ByteArray) : Ev (fun k => laws_FnArgsJoined.j0 k a b false) true := by
  refine Ev.step (fun k => by rw [laws_FnArgsJoined.j0, if_neg (by decide)]) ?_
  refine Ev.call reads (Ev.pos rfl (Ev.call (short2 a b) ?_))
  by_cases h1 : a.size ≤ 2000
  · by_cases h2 : b.size ≤ 2000
    · rw [decide_eq_true h1, decide_eq_true h2]
      have hsz : ((a ++ (⟨#[38]⟩ : ByteArray)) ++ b).size = a.size + 1 + b.size := by rw [size_append, size_append]; rfl
      have hL : L ((a ++ (⟨#[38]⟩ : ByteArray)) ++ b) = L a ++ 38 :: L b := by rw [L_append, L_append]; show (L a ++ [38]) ++ L b = _; simp
      have l1 := argsL_len (L a)
      have l2 := argsL_len (L b)
      rw [← size_L] at l1 l2
      refine Ev.pos rfl (Ev.pos (by omega) (Ev.pos (by omega) (Ev.call (Ev.some (argsOf _ (by omega))) ?_)))
      refine Ev.call (Ev.now _) (Ev.call (Ev.some (argsOf a (by omega))) (Ev.pos (by simp; omega) (Ev.call (Ev.now _) (Ev.call (Ev.some (argsOf b (by omega))) (Ev.pos (by simp; omega) ?_)))))
      have he : (argsL (L ((a ++ (⟨#[38]⟩ : ByteArray)) ++ b))).map arS = ([] ++ (argsL (L a)).map arS) ++ (argsL (L b)).map arS := by
        rw [hL, argsL_app _ _ _ (Nat.le_refl _), List.map_append]; rfl
      rw [he]
      exact Ev.call (same _ (by simp; omega)) (Ev.now _)
    · rw [decide_eq_false h2, Bool.and_false]
      exact Ev.neg (by decide) (Ev.now _)
  · rw [decide_eq_false h1, Bool.false_and]
    exact Ev.neg (by decide) (Ev.now _)
theorem FnArgsJoined : laws_FnArgsJoined.Pure := by
  intro a b ha hb
  refine Ev.rounds ?_
  unfold laws_FnArgsJoined.f
  by_cases h : (a.size : Int) > 2147483647
  · exact Ev.pos h (joined_true a b)
  · refine Ev.neg h ?_
    by_cases h2 : (b.size : Int) > 2147483647
    · rw [decide_eq_true h2]; exact joined_true a b
    · rw [decide_eq_false h2]; exact joined_false a b
end Go.Proofs.Ytjklempjljikpaa.Pure
