/- The pure statement of FnCleanSays. -/
import Derived.Test.YtjklempjljikpaaQ14
import Derived.Test.YtjklempjljikpaaSpSpd
import Derived.Test.YtjklempjljikpaaSpSht
namespace Go.Proofs.Ytjklempjljikpaa.Pure
open Go.RowKit Go.Proofs.Ytjklempjljikpaa.Q Go.Proofs.YtjklempjljikpaaW.PrintWords Go.Proofs.YtjklempjljikpaaW.PrintLast Go.Proofs.YtjklempjljikpaaKit Go.Proofs.Ytjklempjljikpaa.SpA
set_option linter.unusedVariables false
set_option linter.unusedSimpArgs false
theorem spec_path (s : ByteArray) (hs : s.size ≤ 2000) : ∃ r, Ev (fun k => spec_CleanPath.f k s) r ∧ (r.2 = 1 → L r.1 = norm (L s)) := by
  obtain ⟨b, hb⟩ := sound s (by omega)
  have hl := dec_len (L s).length (L s) (Nat.le_refl _)
  rw [← size_L] at hl
  obtain ⟨r, hr, hr1⟩ := cleaned (bl (dec (L s))) (by rw [size_L, L_bl]; omega)
  cases b with
  | false => exact ⟨(⟨#[]⟩, 2), Ev.call hb (Ev.neg (by simp) (Ev.now _)), fun e => absurd e (by decide)⟩
  | true => exact ⟨r, Ev.call hb (Ev.pos rfl (Ev.call (decoded s (by omega)) (Ev.call hr (Ev.now _)))), fun e => by rw [hr1 e, L_bl, norm_dec]⟩
theorem FnCleanSays : laws_FnCleanSays.Pure := by
  intro s hs
  refine Ev.rounds ?_
  unfold laws_FnCleanSays.f
  by_cases h : (s.size : Int) > 2147483647
  · exact Ev.pos h (Ev.now _)
  refine Ev.neg h (Ev.call (Ev.some cleans) (Ev.pos rfl (Ev.call (short1 s) ?_)))
  by_cases h2 : s.size ≤ 2000
  · rw [decide_eq_true h2]
    obtain ⟨r, hr, hr1⟩ := spec_path s h2
    refine Ev.pos rfl (Ev.call hr ?_)
    by_cases h3 : r.2 = 1
    · refine Ev.pos h3 (Ev.call (Ev.some (cleanPath s (by omega))) (Ev.same (Ev.now _) ?_))
      rw [tl, tl, hr1 h3, beq_iff_eq]
    · exact Ev.neg h3 (Ev.now _)
  · rw [decide_eq_false h2]
    exact Ev.neg (by simp) (Ev.now _)
end Go.Proofs.Ytjklempjljikpaa.Pure
