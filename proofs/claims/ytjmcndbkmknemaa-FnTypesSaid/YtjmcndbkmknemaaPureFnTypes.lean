/- The pure statement of FnTypes: a type is found by its name or its other one. -/
import Derived.Test.YtjmcndbkmknemaaStFnTypes
import Derived.Test.YtjmcndbkmknemaaQ39
import Derived.Test.YtjmcndbkmknemaaSpTy
namespace Go.Proofs.Ytjmcndbkmknemaa.Pure
open Go.RowKit Go.Proofs.Ytjmcndbkmknemaa.Q Go.Proofs.YtjmcndbkmknemaaW.PrintWords Go.Proofs.YtjmcndbkmknemaaW.PrintLast Go.Proofs.YtjmcndbkmknemaaKit Go.Proofs.Ytjmcndbkmknemaa.SpTy
theorem types_l1 (nm : ByteArray) (xs : List S45) (hx : xs.length ≤ 9223372036854775807) : ∀ (suf pre : List S45), xs = pre ++ suf →
    Ev (fun k => laws_FnTypes.l1 k nm (orNone (findO nm suf)).2.2.2.2 xs xs.length pre.length (orNone (findO nm suf)).1 (orNone (findO nm suf)).2.1 (orNone (findO nm suf)).2.2.1 (orNone (findO nm suf)).2.2.2.1) true
  | [], pre, h => by
    refine Ev.step (f := fun _ => some true) (fun k => ?_) (Ev.now _)
    simp only [laws_FnTypes.l1]
    rw [if_neg (ln_not h)]
    split <;> rfl
  | p :: t, pre, h => by
    have e : rd_T45 xs pre.length = p := get_mid h _
    by_cases c : hasName nm p = true
    · have he : findO nm (p :: t) = some p := by rw [findO, if_pos c]
      rw [he]
      refine Ev.step (f := fun _ => some true) (fun k => ?_) (Ev.now _)
      simp only [laws_FnTypes.l1, orNone]
      rw [if_pos (ln_mid h), if_pos (by omega), if_pos (ln_mid h), e]
      by_cases c0 : p.f0.toList = nm.toList
      · rw [if_pos c0]; simp
      · rcases hasName_iff.1 c with c1 | ⟨c1, c2⟩
        · exact absurd c1 c0
        · rw [if_neg c0, if_pos c2, if_neg (fun q => c1 (c2.trans q))]
          simp
    · have he : findO nm (p :: t) = findO nm t := by rw [findO, if_neg c]
      rw [he]
      refine Ev.step (fun k => ?_) (types_l1 nm xs hx t (pre ++ [p]) (lmid_next h))
      simp only [laws_FnTypes.l1]
      have c0 : ¬ p.f0.toList = nm.toList := fun q => c (hasName_iff.2 (Or.inl q))
      rw [if_pos (ln_mid h), if_pos (by omega), if_pos (ln_mid h), e, if_neg c0, wrap_lmid h hx]
      by_cases c1 : p.f1.toList = nm.toList
      · have cn : nm.toList = [] := Classical.byContradiction fun q => c (hasName_iff.2 (Or.inr ⟨fun r => q (c1 ▸ r), c1⟩))
        rw [if_pos c1, if_pos cn]
      · rw [if_neg c1]
theorem types_l0 (nm : ByteArray) (xs : List S45) (hx : xs.length ≤ 2147483647) : ∀ (suf pre : List S45), xs = pre ++ suf →
    Ev (fun k => laws_FnTypes.l0 k nm xs xs xs.length pre.length) true
  | [], pre, h => by
    refine Ev.step (fun k => ?_) (types_l1 nm xs (by omega) xs [] rfl)
    simp only [laws_FnTypes.l0]
    rw [if_neg (ln_not h), typeOf nm xs hx, Option.bind_some]
    rfl
  | p :: t, pre, h => by
    have e : rd_T45 xs pre.length = p := get_mid h _
    by_cases c : p.f0.toList = []
    · refine Ev.step (f := fun _ => some true) (fun k => ?_) (Ev.now _)
      simp only [laws_FnTypes.l0]
      rw [if_pos (ln_mid h), if_pos (by omega), if_pos (ln_mid h), e, if_pos c]
    · refine Ev.step (fun k => ?_) (types_l0 nm xs hx t (pre ++ [p]) (lmid_next h))
      simp only [laws_FnTypes.l0]
      rw [if_pos (ln_mid h), if_pos (by omega), if_pos (ln_mid h), e, if_neg c, wrap_lmid h (by omega)]
theorem FnTypes : StFnTypes.Pure := by
  intro nm l hn hl _
  obtain ⟨b, hb, hf⟩ := fits2 l (maxLen_le hl)
  refine Ev.rounds ?_
  unfold laws_FnTypes.f
  have hj : ∀ x, (x = false → l.length ≤ 2147483647) → Ev (fun k => laws_FnTypes.j0 k nm l x) true := by
    intro x hx
    cases x with
    | true => exact Ev.step (f := fun _ => some true) (fun k => by simp only [laws_FnTypes.j0]; rfl) (Ev.now _)
    | false =>
      have hlen := hx rfl
      obtain ⟨t, ht⟩ : ∃ t, laws_types.f = some t := ⟨_, rfl⟩
      have hq := typeOf_number
      rw [ht, Option.bind_some] at hq
      refine Ev.step (f := fun k => laws_FnTypes.j1 k nm l false) (fun k => ?_) (Ev.step (f := fun k => laws_FnTypes.l0 k nm l l l.length 0) (fun k => ?_) (types_l0 nm l hlen l [] rfl))
      · simp only [laws_FnTypes.j0]
        rw [if_neg (by decide), ht, Option.bind_some, hq, Option.bind_some]
        refine (if_pos rfl).trans ?_
        simp only [tl]
        rfl
      · simp only [laws_FnTypes.j1]
        rw [if_neg (by decide)]
  by_cases h : (nm.size : Int) > 2147483647
  · exact Ev.pos h (hj true (fun h => by cases h))
  · refine Ev.neg h (Ev.call hb (hj (!b) (fun q => hf (by cases b <;> simp_all))))
end Go.Proofs.Ytjmcndbkmknemaa.Pure
