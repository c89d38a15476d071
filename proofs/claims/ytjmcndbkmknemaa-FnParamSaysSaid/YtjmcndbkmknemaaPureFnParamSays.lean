/- The pure statement of FnParamSays: a parameter is found as the reference finds it. -/
import Derived.Test.YtjmcndbkmknemaaStFnParamSays
import Derived.Test.YtjmcndbkmknemaaQ5
import Derived.Test.YtjmcndbkmknemaaSpPar
namespace Go.Proofs.Ytjmcndbkmknemaa.Pure
open Go.RowKit Go.Proofs.Ytjmcndbkmknemaa.Q Go.Proofs.YtjmcndbkmknemaaW.PrintWords Go.Proofs.YtjmcndbkmknemaaW.PrintLast Go.Proofs.YtjmcndbkmknemaaKit Go.Proofs.Ytjmcndbkmknemaa.SpA
theorem FnParamSays : StFnParamSays.Pure := by
  intro l nm hl _ hn
  obtain ⟨b, hb, hf⟩ := fits4 l (maxLen_le hl)
  refine Ev.rounds ?_
  unfold laws_FnParamSays.f
  refine Ev.call hb ?_
  have hj : (b = true → l.length ≤ 2147483647) → ∀ x, (b = false → x = true) → Ev (fun k => laws_FnParamSays.j0 k l nm x) true := by
    intro hf x hx
    by_cases c : x = true
    · exact Ev.step (f := fun _ => some true) (fun k => by simp only [laws_FnParamSays.j0]; rw [if_pos c]) (Ev.now _)
    · have hbt : b = true := by cases b <;> simp_all
      have hlen := hf hbt
      have g := paramOf ⟨#[97]⟩ [(⟨⟨#[97]⟩, ⟨#[98]⟩⟩ : S27)] (by simp)
      refine Ev.step (fun k => by simp only [laws_FnParamSays.j0]; rw [if_neg c]) (Ev.call g ?_)
      simp only [List.map_cons, List.map_nil, getP, if_true]
      have e1 := pairsOf_l l hlen l [] [] rfl rfl
      have e2 := specOf_l nm (l.map fun p => (⟨p.f0, p.f1⟩ : S65)) (by rw [List.length_map]; omega) _ [] rfl
      refine Ev.step (f := fun k => (impl_ParamOf.f k l nm).bind fun bt127 => (laws_pairsOf.f k l).bind fun t129 => (spec_ParamOf.f k t129 nm).bind fun bt132 => if bt127.1.toList = bt132.1.toList then some (bt127.2 == bt132.2) else some false) (fun k => ?_)
        (Ev.call (paramOf nm l hlen) (Ev.call e1 (Ev.call e2 ?_)))
      · simp only [laws_FnParamSays.j1, tl]
        rw [if_neg (by decide)]
      · rw [List.map_map]
        exact Ev.some (by simp [Function.comp_def])
  cases b with
  | true => exact Ev.pos rfl (hj hf _ (by simp))
  | false => exact Ev.neg (by simp) (hj hf _ (by simp))
end Go.Proofs.Ytjmcndbkmknemaa.Pure
