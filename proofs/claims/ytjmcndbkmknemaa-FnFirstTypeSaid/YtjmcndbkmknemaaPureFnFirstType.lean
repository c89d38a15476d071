/- The pure statement of FnFirstType: the first type that says so is taken. -/
import Derived.Test.YtjmcndbkmknemaaStFnFirstType
import Derived.Test.YtjmcndbkmknemaaQ20
import Derived.Test.YtjmcndbkmknemaaSpTy
namespace Go.Proofs.Ytjmcndbkmknemaa.Pure
open Go.RowKit Go.Proofs.Ytjmcndbkmknemaa.Q Go.Proofs.YtjmcndbkmknemaaW.PrintWords Go.Proofs.YtjmcndbkmknemaaW.PrintLast Go.Proofs.YtjmcndbkmknemaaKit Go.Proofs.Ytjmcndbkmknemaa.SpTy
theorem first_l (xs : List S45) (hx : xs.length ≤ 9223372036854775807) : ∀ (suf pre : List S45), xs = pre ++ suf →
    Ev (fun k => laws_FnFirstType.l0 k xs (orNone (masterO xs suf)).2.2.2.2 xs xs.length pre.length (orNone (masterO xs suf)).1 (orNone (masterO xs suf)).2.1 (orNone (masterO xs suf)).2.2.1 (orNone (masterO xs suf)).2.2.2.1) true
  | [], pre, h => by
    refine Ev.step (f := fun _ => some true) (fun k => ?_) (Ev.now _)
    simp only [laws_FnFirstType.l0]
    rw [if_neg (ln_not h)]
    cases xs with
    | nil => rfl
    | cons y t => rw [if_pos (by simp)]
  | p :: t, pre, h => by
    have e : rd_T45 xs pre.length = p := get_mid h _
    by_cases c : p.f2 = true
    · have he : masterO xs (p :: t) = some p := by rw [masterO, if_pos c]
      rw [he]
      refine Ev.step (f := fun _ => some true) (fun k => ?_) (Ev.now _)
      simp only [laws_FnFirstType.l0, orNone]
      rw [if_pos (ln_mid h), if_pos (by omega), if_pos (ln_mid h), e, if_pos c]
      simp
    · have he : masterO xs (p :: t) = masterO xs t := by rw [masterO, if_neg c]
      rw [he]
      refine Ev.step (fun k => ?_) (first_l xs hx t (pre ++ [p]) (lmid_next h))
      simp only [laws_FnFirstType.l0]
      rw [if_pos (ln_mid h), if_pos (by omega), if_pos (ln_mid h), e, if_neg c, wrap_lmid h hx]
theorem FnFirstType : StFnFirstType.Pure := by
  intro l hl _
  obtain ⟨b, hb, hf⟩ := fits2 l (maxLen_le hl)
  refine Ev.rounds ?_
  unfold laws_FnFirstType.f
  refine Ev.call hb ?_
  cases b with
  | false => exact Ev.neg (by simp) (Ev.now _)
  | true =>
    have hlen := hf rfl
    refine Ev.pos rfl ?_
    obtain ⟨t, ht⟩ : ∃ t, laws_types.f = some t := ⟨_, rfl⟩
    have hq := firstType_types
    rw [ht, Option.bind_some] at hq
    refine Ev.call (Ev.some ht) (Ev.call (Ev.some hq) (Ev.pos rfl ?_))
    refine Ev.step (f := fun k => laws_FnFirstType.l0 k l (orNone (masterO l l)).2.2.2.2 l l.length 0 (orNone (masterO l l)).1 (orNone (masterO l l)).2.1 (orNone (masterO l l)).2.2.1 (orNone (masterO l l)).2.2.2.1) (fun k => ?_) (first_l l (maxLen_le hl) l [] rfl)
    simp only [laws_FnFirstType.j0, tl]
    rw [if_neg (by decide), firstType l hlen, Option.bind_some]
end Go.Proofs.Ytjmcndbkmknemaa.Pure
