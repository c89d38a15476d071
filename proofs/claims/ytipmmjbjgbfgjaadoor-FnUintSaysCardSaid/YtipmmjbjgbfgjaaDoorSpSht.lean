/- Short texts: what the plain functions come to. No program in sight. -/
import Derived.Test.YtipmmjbjgbfgjaaDoorQ5
import Derived.Test.YtipmmjbjgbfgjaaDoorKit
namespace Go.Proofs.YtipmmjbjgbfgjaaDoor.SpA
open Go.RowKit Go.Proofs.YtipmmjbjgbfgjaaDoor.Q Go.Proofs.YtipmmjbjgbfgjaaDoorW.PrintWords Go.Proofs.YtipmmjbjgbfgjaaDoorW.PrintLast Go.Proofs.YtipmmjbjgbfgjaaDoorKit
set_option linter.unusedVariables false
set_option linter.unusedSimpArgs false
/-! ### texts -/
theorem short_l (ys xs : List ByteArray) (hx : xs.length ≤ 9223372036854775807) : ∀ (suf pre : List ByteArray), xs = pre ++ suf → Ev (fun k => laws_short.l0 k ys xs xs.length pre.length) (suf.all (fun s => decide (s.size ≤ 2000)) && decide (ys.length ≤ 60))
  | [], pre, h => by
    refine Ev.step (f := fun _ => some (decide ((ys.length : Int) ≤ 60))) (fun k => by simp only [laws_short.l0]; rw [if_neg (ln_not h)]) (Ev.same (Ev.now _) ?_)
    rw [List.all_nil, Bool.true_and]
    exact decide_eq_decide.2 (by omega)
  | p :: t, pre, h => by
    have e : rdOf ByteArray.empty xs pre.length = p := get_mid h _
    rw [List.all_cons]
    by_cases c : p.size ≤ 2000
    · rw [decide_eq_true c, Bool.true_and]
      refine Ev.step (fun k => ?_) (short_l ys xs hx t (pre ++ [p]) (lmid_next h))
      simp only [laws_short.l0]
      rw [if_pos (ln_mid h), if_pos (by omega), if_pos (ln_mid h), e, if_neg (by omega), wrap_lmid h hx]
    · rw [decide_eq_false c, Bool.false_and, Bool.false_and]
      refine Ev.step (f := fun _ => some false) (fun k => ?_) (Ev.now _)
      simp only [laws_short.l0]
      rw [if_pos (ln_mid h), if_pos (by omega), if_pos (ln_mid h), e, if_pos (by omega)]
theorem short1 (s : ByteArray) : Ev (fun k => laws_short.f k [s]) (decide (s.size ≤ 2000)) :=
  Ev.same (short_l [s] [s] (by simp) [s] [] rfl) (by simp)
def isWordB (c : UInt8) : Bool := !(decide ((Go.bits .or .u8 (c.toNat : Int) 32) < 97) || decide ((Go.bits .or .u8 (c.toNat : Int) 32) > 122)) || !(decide ((c.toNat : Int) < 48) || decide ((c.toNat : Int) > 57))
end Go.Proofs.YtipmmjbjgbfgjaaDoor.SpA
