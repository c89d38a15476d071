/- Texts that hold a sign: what the plain function comes to. No program in sight. -/
import Derived.Test.YtipmmjbjgbfgjaaQ5
import Derived.Test.YtipmmjbjgbfgjaaKit
namespace Go.Proofs.Ytipmmjbjgbfgjaa.SpA
open Go.RowKit Go.Proofs.Ytipmmjbjgbfgjaa.Q Go.Proofs.YtipmmjbjgbfgjaaW.PrintWords Go.Proofs.YtipmmjbjgbfgjaaW.PrintLast Go.Proofs.YtipmmjbjgbfgjaaKit
set_option linter.unusedVariables false
set_option linter.unusedSimpArgs false
theorem holds_l (s : ByteArray) (x : Int) (hs : s.size ≤ 140737488351232) : ∀ (suf pre : List UInt8), L s = pre ++ suf → Ev (fun k => laws_holds.l0 k s x s.size pre.length) (suf.any (fun c => decide ((c.toNat : Int) = x)))
  | [], pre, h => Ev.step (f := fun _ => some false) (fun k => by simp only [laws_holds.l0]; rw [if_neg (sz_not h)]) (Ev.now _)
  | c :: t, pre, h => by
    rw [List.any_cons]
    by_cases c1 : (c.toNat : Int) = x
    · rw [decide_eq_true c1, Bool.true_or]
      refine Ev.step (f := fun _ => some true) (fun k => ?_) (Ev.now _)
      simp only [laws_holds.l0]
      rw [if_pos (sz_mid h), if_pos (by omega), if_pos (sz_mid h), bt_mid h, if_pos c1]
    · rw [decide_eq_false c1, Bool.false_or]
      refine Ev.step (fun k => ?_) (holds_l s x hs t (pre ++ [c]) (mid_next h))
      simp only [laws_holds.l0]
      rw [if_pos (sz_mid h), if_pos (by omega), if_pos (sz_mid h), bt_mid h, if_neg c1, wrap_mid h hs]
theorem holds (s : ByteArray) (x : Int) (hs : s.size ≤ 140737488351232) : Ev (fun k => laws_holds.f k s x) ((L s).any (fun c => decide ((c.toNat : Int) = x))) := holds_l s x hs (L s) [] rfl
end Go.Proofs.Ytipmmjbjgbfgjaa.SpA
