/- The pure statement of FnTypeSays: a type is found as the reference finds it. -/
import Derived.Test.YtjmcndbkmknemaaStFnTypeSays
import Derived.Test.YtjmcndbkmknemaaQ38
import Derived.Test.YtjmcndbkmknemaaSpTy
namespace Go.Proofs.Ytjmcndbkmknemaa.Pure
open Go.RowKit Go.Proofs.Ytjmcndbkmknemaa.Q Go.Proofs.YtjmcndbkmknemaaW.PrintWords Go.Proofs.YtjmcndbkmknemaaW.PrintLast Go.Proofs.YtjmcndbkmknemaaKit Go.Proofs.Ytjmcndbkmknemaa.SpTy
theorem typeSays_l0 (nm : ByteArray) (xs : List S45) (hx : xs.length ≤ 2147483647) : ∀ (suf pre : List S45), xs = pre ++ suf →
    Ev (fun k => laws_FnTypeSays.l0 k nm xs xs xs.length pre.length) true
  | [], pre, h => by
    refine Ev.step (f := fun k => (laws_typesOf.f k xs).bind fun t319 => (spec_TypeOf.f k nm t319).bind fun bt322 => (if ((orNone (findO nm xs)).2.2.2.2 == bt322.2.2.2.2) = true then (if (orNone (findO nm xs)).2.2.2.2 = true then (some ((orNone (findO nm xs)).1.toList == bt322.1.toList && ((orNone (findO nm xs)).2.1.toList == bt322.2.1.toList && ((orNone (findO nm xs)).2.2.1 == bt322.2.2.1 && ((orNone (findO nm xs)).2.2.2.1 == bt322.2.2.2.1))))) else (some true)) else (some false))) (fun k => ?_) (Ev.call (typesOf xs hx) (Ev.call (specTypeOf nm xs hx) (Ev.some ?_)))
    · simp only [laws_FnTypeSays.l0]
      rw [if_neg (ln_not h), typeOf nm xs hx, Option.bind_some]
    · rw [if_pos (by simp)]
      split <;> simp
  | p :: t, pre, h => by
    have e : rd_T45 xs pre.length = p := get_mid h _
    by_cases c : p.f0.toList = []
    · refine Ev.step (f := fun _ => some true) (fun k => ?_) (Ev.now _)
      simp only [laws_FnTypeSays.l0]
      rw [if_pos (ln_mid h), if_pos (by omega), if_pos (ln_mid h), e, if_pos c]
    · refine Ev.step (fun k => ?_) (typeSays_l0 nm xs hx t (pre ++ [p]) (lmid_next h))
      simp only [laws_FnTypeSays.l0]
      rw [if_pos (ln_mid h), if_pos (by omega), if_pos (ln_mid h), e, if_neg c, wrap_lmid h (by omega)]
theorem FnTypeSays : StFnTypeSays.Pure := by
  intro nm l hn hl _
  obtain ⟨b, hb, hf⟩ := fits2 l (maxLen_le hl)
  refine Ev.rounds ?_
  unfold laws_FnTypeSays.f
  have h2 : ∀ x, l.length ≤ 2147483647 → Ev (fun k => laws_FnTypeSays.j2 k nm l x) true := by
    intro x hlen
    cases x with
    | true => exact Ev.step (f := fun _ => some true) (fun k => by simp only [laws_FnTypeSays.j2]; rfl) (Ev.now _)
    | false => exact Ev.step (fun k => by simp only [laws_FnTypeSays.j2]; rw [if_neg (by decide)]; rfl) (typeSays_l0 nm l hlen l [] rfl)
  have hj : ∀ x, (x = false → l.length ≤ 2147483647) → Ev (fun k => laws_FnTypeSays.j0 k nm l x) true := by
    intro x hx
    cases x with
    | true => exact Ev.step (f := fun _ => some true) (fun k => by simp only [laws_FnTypeSays.j0]; rfl) (Ev.now _)
    | false =>
      have hlen := hx rfl
      obtain ⟨t, ht⟩ : ∃ t, laws_types.f = some t := ⟨_, rfl⟩
      have hq := typeOf_number
      rw [ht, Option.bind_some] at hq
      refine Ev.step (f := fun k => laws_FnTypeSays.j1 k nm l false) (fun k => ?_) ?_
      · simp only [laws_FnTypeSays.j0]
        rw [if_neg (by decide), ht, Option.bind_some, hq, Option.bind_some]
        refine (if_pos rfl).trans ?_
        simp only [tl]
        rfl
      · by_cases c : nm.toList = []
        · exact Ev.step (fun k => by simp only [laws_FnTypeSays.j1]; rw [if_neg (by decide), if_pos c]) (h2 true hlen)
        · exact Ev.step (fun k => by simp only [laws_FnTypeSays.j1]; rw [if_neg (by decide), if_neg c]) (h2 _ hlen)
  by_cases h : (nm.size : Int) > 2147483647
  · exact Ev.pos h (hj true (fun h => by cases h))
  · refine Ev.neg h (Ev.call hb (hj (!b) (fun q => hf (by cases b <;> simp_all))))
end Go.Proofs.Ytjmcndbkmknemaa.Pure
