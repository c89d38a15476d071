/- The pure statement of FnPathClean: a cleaned path begins with a slash, has no steps, and cleaning it again changes nothing. -/
import Derived.Test.YtjklempjljikpaaQ22
import Derived.Test.YtjklempjljikpaaSpCln
namespace Go.Proofs.Ytjklempjljikpaa.Pure
open Go.RowKit Go.Proofs.Ytjklempjljikpaa.Q Go.Proofs.YtjklempjljikpaaW.PrintWords Go.Proofs.YtjklempjljikpaaW.PrintLast Go.Proofs.YtjklempjljikpaaKit Go.Proofs.Ytjklempjljikpaa.SpA
theorem FnPathClean : laws_FnPathClean.Pure := by
  intro s hs
  refine Ev.rounds ?_
  unfold laws_FnPathClean.f
  by_cases h : (s.size : Int) > 2147483647
  · exact Ev.pos h (Ev.now _)
  refine Ev.neg h (Ev.call (Ev.some cleans) (Ev.pos rfl (Ev.call (short1 s) ?_)))
  by_cases h2 : s.size ≤ 2000
  · rw [decide_eq_true h2]
    refine Ev.pos rfl (Ev.call (Ev.some (cleanPath s (by omega))) ?_)
    obtain ⟨r, hr⟩ : ∃ r : ByteArray, r = ⟨(norm (L s)).toArray⟩ := ⟨_, rfl⟩
    rw [← hr]
    have hL : L r = norm (L s) := by rw [hr]
    have hsz : r.size ≤ 2003 := by rw [size_L, hL]; have := norm_len (L s); rw [← size_L] at this; omega
    have hfree : Cl.Free (L r) := by rw [hL]; exact Cl.clean_free _
    obtain ⟨t, ht⟩ : ∃ t, L r = 47 :: t := by rw [hL]; exact Cl.clean_slash _
    have hb : laws_begins.f r ⟨#[47]⟩ = some true := by
      rw [begins_eq, decide_eq_true (by rw [size_L r, ht]; simp; exact Nat.succ_le_succ (Nat.zero_le _)), ht]
      rfl
    refine Ev.call (Ev.some hb) (Ev.pos rfl ?_)
    refine Ev.call (stands_no r ⟨#[47, 47]⟩ (by omega) (fun x y e => hfree.dup x y (by rw [e]; simp [L]))) (Ev.neg (by simp) ?_)
    refine Ev.call (stands_no r ⟨#[47, 46, 47]⟩ (by omega) (fun x y e => hfree.dot x y (by rw [e]; simp [L]))) (Ev.neg (by simp) ?_)
    refine Ev.call (stands_no r ⟨#[47, 46, 46, 47]⟩ (by omega) (fun x y e => hfree.up x y (by rw [e]; simp [L]))) ?_
    refine Ev.step (fun k => by simp only [laws_FnPathClean.j0]; rw [if_neg (by decide)]) (Ev.call (holds r 37 (by omega)) ?_)
    by_cases hp : ((L r).any fun c => decide ((c.toNat : Int) = 37)) = true
    · exact Ev.pos hp (Ev.now _)
    · refine Ev.neg hp (Ev.call (Ev.some (cleanPath r (by omega))) (Ev.some ?_))
      have hno : (37 : UInt8) ∉ L r := fun hm => hp (List.any_eq_true.2 ⟨37, hm, by decide⟩)
      have hsame : norm (L r) = L r := by
        rw [ht] at hno ⊢
        rw [norm_slash t hno, ← ht, hL]
        exact Cl.clean_again _
      simp only [hsame, tl]
      simp
  · rw [decide_eq_false h2]
    exact Ev.neg (by simp) (Ev.now _)
end Go.Proofs.Ytjklempjljikpaa.Pure
