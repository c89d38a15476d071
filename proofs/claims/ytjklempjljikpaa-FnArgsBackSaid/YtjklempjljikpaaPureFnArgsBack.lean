/- The pure statement of FnArgsBack: arguments that are written as a query are read as they were. -/
import Derived.Test.YtjklempjljikpaaStFnArgsBack
import Derived.Test.YtjklempjljikpaaSpArB
namespace Go.Proofs.Ytjklempjljikpaa.Pure
open Go.RowKit Go.Proofs.Ytjklempjljikpaa.Q Go.Proofs.YtjklempjljikpaaW.PrintWords Go.Proofs.YtjklempjljikpaaW.PrintLast Go.Proofs.YtjklempjljikpaaKit Go.Proofs.Ytjklempjljikpaa.SpA
set_option linter.unusedVariables false
set_option linter.unusedSimpArgs false
theorem back_l (l : List S36) (hl : l.length ≤ 20) (hs : ∀ x ∈ l, x.f0.size ≤ 200 ∧ x.f1.size ≤ 200) : ∀ d n, l.length - n = d → n ≤ l.length → (∀ j (h : j < l.length), j < n → l[j].f0.toList ≠ [] ∧ (l[j].f2 = true → l[j].f1.toList = [])) →
    Ev (fun k => laws_FnArgsBack.l0 k l l (l.length : Int) (n : Int)) true := by
  intro d
  induction d with
  | zero =>
    intro n hd hn hp
    have hall : ∀ x ∈ l, x.f0.toList ≠ [] ∧ (x.f2 = true → x.f1.toList = []) := fun x hx => by
      obtain ⟨j, hj, e⟩ := List.getElem_of_mem hx
      rw [← e]
      exact hp j hj (by omega)
    have hm : (l.map en36).map arS = l := by
      rw [List.map_map]
      conv => rhs; rw [← List.map_id l]
      exact List.map_congr_left fun x hx => en_arS x (hall x hx).2
    have hbk := back (l.map en36) (fun y hy => by
      obtain ⟨x, hx, rfl⟩ := List.mem_map.1 hy
      have h1 := hall x hx
      refine ⟨fun e => h1.1 (by rw [tl]; exact e), fun e => ?_⟩
      show valIf x.f2 x.f1.data.toList = []
      have e : x.f2 = true := e
      unfold valIf
      rw [if_pos e]) (fun y hy => by
      obtain ⟨x, hx, rfl⟩ := List.mem_map.1 hy
      have h1 := hs x hx
      rw [size_L, size_L] at h1
      refine ⟨by show (L x.f0).length ≤ _; omega, ?_⟩
      show (valIf x.f2 x.f1.data.toList).length ≤ _
      unfold valIf
      split
      · simp
      · show (L x.f1).length ≤ _; omega) (by simp; omega)
    rw [hm] at hbk
    refine Ev.step (fun k => ?_) hbk
    simp only [laws_FnArgsBack.l0]
    rw [if_neg (by omega)]
  | succ d ih =>
    intro n hd hn hp
    have hw : wrap64 ((n : Int) + 1) = ((n + 1 : Nat) : Int) := by unfold wrap64; omega
    have now : (∀ k, laws_FnArgsBack.l0 (k + 1) l l (l.length : Int) (n : Int) = some true) → Ev (fun k => laws_FnArgsBack.l0 k l l (l.length : Int) (n : Int)) true := fun h => Ev.step (f := fun _ => some true) h (Ev.now _)
    have go : l[n].f0.toList ≠ [] → (l[n].f2 = true → l[n].f1.toList = []) → Ev (fun k => laws_FnArgsBack.l0 k l l (l.length : Int) ((n + 1 : Nat) : Int)) true := fun h1 h2 => ih (n + 1) (by omega) (by omega) (fun j hj hj2 => by
      by_cases e : j = n
      · subst e; exact ⟨h1, h2⟩
      · exact hp j hj (by omega))
    by_cases h0 : l[n].f0.toList = ([] : List UInt8)
    · refine now fun k => ?_
      simp only [laws_FnArgsBack.l0]
      rw [if_pos (by omega), if_pos (by omega), if_pos (by omega), rd36 l n (by omega), if_pos h0]
    · by_cases h2 : l[n].f2 = true
      · by_cases h1 : l[n].f1.toList = ([] : List UInt8)
        · refine Ev.step (fun k => ?_) (go h0 (fun _ => h1))
          simp only [laws_FnArgsBack.l0]
          rw [if_pos (by omega), if_pos (by omega), if_pos (by omega), rd36 l n (by omega), if_neg h0, if_pos h2, if_pos h1, hw]
        · refine now fun k => ?_
          simp only [laws_FnArgsBack.l0]
          rw [if_pos (by omega), if_pos (by omega), if_pos (by omega), rd36 l n (by omega), if_neg h0, if_pos h2, if_neg h1]
      · refine Ev.step (fun k => ?_) (go h0 (fun e => absurd e h2))
        simp only [laws_FnArgsBack.l0]
        rw [if_pos (by omega), if_pos (by omega), if_pos (by omega), rd36 l n (by omega), if_neg h0, if_neg h2, hw]
theorem FnArgsBack : StFnArgsBack.Pure := by
  intro l hl hs
  refine Ev.rounds ?_
  unfold laws_FnArgsBack.f
  obtain ⟨b, hb, hb2⟩ := fits7 l
  refine Ev.call hb ?_
  cases b with
  | false => exact Ev.neg (by decide) (Ev.now _)
  | true =>
    refine Ev.pos rfl (Ev.call reads (Ev.pos rfl ?_))
    obtain ⟨c, hc, hc2⟩ := few l (hb2 rfl)
    refine Ev.call hc ?_
    cases c with
    | false => exact Ev.neg (by decide) (Ev.now _)
    | true => exact Ev.pos rfl (back_l l (hc2 rfl).1 (hc2 rfl).2 _ 0 rfl (Nat.zero_le _) (fun _ _ h => absurd h (Nat.not_lt_zero _)))
end Go.Proofs.Ytjklempjljikpaa.Pure
