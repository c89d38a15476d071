/- The pure statement of FnParamOf: the first pair of a name is found, and none where none has it. -/
import Derived.Test.YtjmcndbkmknemaaStFnParamOf
import Derived.Test.YtjmcndbkmknemaaQ3
import Derived.Test.YtjmcndbkmknemaaSpPar
namespace Go.Proofs.Ytjmcndbkmknemaa.Pure
open Go.RowKit Go.Proofs.Ytjmcndbkmknemaa.Q Go.Proofs.YtjmcndbkmknemaaW.PrintWords Go.Proofs.YtjmcndbkmknemaaW.PrintLast Go.Proofs.YtjmcndbkmknemaaKit Go.Proofs.Ytjmcndbkmknemaa.SpA
theorem end_l (nm : ByteArray) (xs : List S27) (hx : xs.length ≤ 9223372036854775807) : ∀ (suf pre : List S27), xs = pre ++ suf →
    Ev (fun k => laws_FnParamOf.l0 k nm (getP nm (suf.map fun p => (p.f0, p.f1))).1 (getP nm (suf.map fun p => (p.f0, p.f1))).2 xs xs.length pre.length) true
  | [], pre, h => by
    refine Ev.step (f := fun _ => some true) (fun k => ?_) (Ev.now _)
    simp only [laws_FnParamOf.l0, List.map_nil, getP]
    rw [if_neg (ln_not h), if_neg (by simp), tl]
    rfl
  | p :: t, pre, h => by
    have e : rd_T27 xs pre.length = p := get_mid h _
    simp only [List.map_cons, getP]
    by_cases c : p.f0 = nm
    · rw [if_pos c]
      refine Ev.step (f := fun _ => some true) (fun k => ?_) (Ev.now _)
      simp only [laws_FnParamOf.l0]
      rw [if_pos (ln_mid h), if_pos (by omega), if_pos (ln_mid h), e, if_pos (tl_eq.2 c)]
      simp
    · rw [if_neg c]
      refine Ev.step (fun k => ?_) (end_l nm xs hx t (pre ++ [p]) (lmid_next h))
      simp only [laws_FnParamOf.l0]
      rw [if_pos (ln_mid h), if_pos (by omega), if_pos (ln_mid h), e, if_neg (fun q => c (tl_eq.1 q)), wrap_lmid h hx]
theorem FnParamOf : StFnParamOf.Pure := by
  intro l nm hl _ hn
  obtain ⟨b, hb, hf⟩ := fits4 l (maxLen_le hl)
  refine Ev.rounds ?_
  unfold laws_FnParamOf.f
  refine Ev.call hb ?_
  have hj : (b = true → l.length ≤ 2147483647) → ∀ x, (b = false → x = true) → Ev (fun k => laws_FnParamOf.j0 k l nm x) true := by
    intro hf x hx
    by_cases c : x = true
    · exact Ev.step (f := fun _ => some true) (fun k => by simp only [laws_FnParamOf.j0]; rw [if_pos c]) (Ev.now _)
    · have hbt : b = true := by cases b <;> simp_all
      have hlen := hf hbt
      have g := paramOf ⟨#[97]⟩ [(⟨⟨#[97]⟩, ⟨#[98]⟩⟩ : S27)] (by simp)
      refine Ev.step (fun k => by simp only [laws_FnParamOf.j0]; rw [if_neg c]) (Ev.call g ?_)
      simp only [List.map_cons, List.map_nil, getP, if_true]
      refine Ev.step (f := fun k => (impl_ParamOf.f k l nm).bind fun bt120 => laws_FnParamOf.l0 k nm bt120.1 bt120.2 l l.length 0) (fun k => ?_) (Ev.call (paramOf nm l hlen) (end_l nm l (maxLen_le hl) l [] rfl))
      simp only [laws_FnParamOf.j1, tl]
      rw [if_neg (by decide)]
  cases b with
  | true => exact Ev.pos rfl (hj hf _ (by simp))
  | false => exact Ev.neg (by simp) (hj hf _ (by simp))
end Go.Proofs.Ytjmcndbkmknemaa.Pure
