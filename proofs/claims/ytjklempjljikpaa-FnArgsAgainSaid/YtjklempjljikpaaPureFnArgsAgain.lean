/- The pure statement of FnArgsAgain: what was read of a query, written and read again, is the same. -/
import Derived.Test.YtjklempjljikpaaQ26
import Derived.Test.YtjklempjljikpaaSpAr

namespace Go.Proofs.Ytjklempjljikpaa.Pure
open Go.RowKit Go.Proofs.Ytjklempjljikpaa.Q Go.Proofs.YtjklempjljikpaaW.PrintWords Go.Proofs.YtjklempjljikpaaW.PrintLast Go.Proofs.YtjklempjljikpaaKit Go.Proofs.Ytjklempjljikpaa.SpA
set_option linter.unusedVariables false
set_option linter.unusedSimpArgs false
theorem again_l (es : List En) (hl : es.length ≤ 2000) (hb : ∀ x ∈ es, x.1.length ≤ 2000 ∧ x.2.1.length ≤ 2000) (hv : ∀ x ∈ es, x.2.2 = true → x.2.1 = []) : ∀ d n, es.length - n = d → n ≤ es.length → (∀ j (h : j < es.length), j < n → es[j].1 ≠ []) →
    Ev (fun k => laws_FnArgsAgain.l0 k (es.map arS) (es.map arS) (es.length : Int) (n : Int)) true := by
  intro d
  induction d with
  | zero =>
    intro n hd hn hp
    have hbk := back es (fun x hx => by
      obtain ⟨j, hj, e⟩ := List.getElem_of_mem hx
      refine ⟨by rw [← e]; exact hp j hj (by omega), hv x hx⟩) hb hl
    refine Ev.step (fun k => ?_) hbk
    simp only [laws_FnArgsAgain.l0]
    rw [if_neg (by omega)]
  | succ d ih =>
    intro n hd hn hp
    have hw : wrap64 ((n : Int) + 1) = ((n + 1 : Nat) : Int) := by unfold wrap64; omega
    have hr : rd_T36 (es.map arS) (n : Int) = arS (es[n]'(by omega)) := by rw [rd36 _ n (by rw [List.length_map]; omega), List.getElem_map]
    have hlm : ((es.map arS).length : Int) = (es.length : Int) := by rw [List.length_map]
    by_cases h0 : (arS (es[n]'(by omega))).f0.toList = ([] : List UInt8)
    · refine Ev.step (f := fun _ => some true) (fun k => ?_) (Ev.now _)
      simp only [laws_FnArgsAgain.l0]
      rw [if_pos (by omega), if_pos (by omega), if_pos (by omega), hr, if_pos h0]
    · refine Ev.step (fun k => ?_) (ih (n + 1) (by omega) (by omega) (fun j hj hj2 => by
        by_cases e : j = n
        · subst e; intro e2; exact h0 (by rw [tl]; exact e2)
        · exact hp j hj (by omega)))
      simp only [laws_FnArgsAgain.l0]
      rw [if_pos (by omega), if_pos (by omega), if_pos (by omega), hr, if_neg h0, hw]
theorem FnArgsAgain : laws_FnArgsAgain.Pure := by
  intro a ha
  refine Ev.rounds ?_
  unfold laws_FnArgsAgain.f
  by_cases h : (a.size : Int) > 2147483647
  · exact Ev.pos h (Ev.now _)
  refine Ev.neg h (Ev.call reads (Ev.pos rfl (Ev.call (short1 a) ?_)))
  by_cases h2 : a.size ≤ 2000
  · rw [decide_eq_true h2]
    have hL : (L a).length ≤ 2000 := by rw [← size_L]; exact h2
    have hl := argsL_len (L a)
    have hle := args_le 2000 (L a) hL
    refine Ev.pos rfl (Ev.call (Ev.some (argsOf a (by omega))) ?_)
    have := again_l (argsL (L a)) (by omega) (fun x hx => ⟨(hle x hx).1, (hle x hx).2.1⟩) (fun x hx => (hle x hx).2.2) _ 0 rfl (Nat.zero_le _) (fun _ _ h => absurd h (Nat.not_lt_zero _))
    rw [List.length_map]
    exact this
  · rw [decide_eq_false h2]
    exact Ev.neg (by simp) (Ev.now _)
end Go.Proofs.Ytjklempjljikpaa.Pure
