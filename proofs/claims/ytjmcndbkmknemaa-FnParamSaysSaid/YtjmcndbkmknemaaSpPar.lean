/- Parameters: what the plain functions come to. No program in sight. -/
import Derived.Test.YtjmcndbkmknemaaQ1
import Derived.Test.YtjmcndbkmknemaaQ2
import Derived.Test.YtjmcndbkmknemaaQ4
import Derived.Test.YtjmcndbkmknemaaKit
namespace Go.Proofs.Ytjmcndbkmknemaa.SpA
open Go.RowKit Go.Proofs.Ytjmcndbkmknemaa.Q Go.Proofs.YtjmcndbkmknemaaW.PrintWords Go.Proofs.YtjmcndbkmknemaaW.PrintLast Go.Proofs.YtjmcndbkmknemaaKit
set_option linter.unusedVariables false
set_option linter.unusedSimpArgs false
/-! ### parameters -/
theorem fits5 (a b : ByteArray) : laws_zzFits5.f a b = some (decide (a.size ≤ 2147483647) && decide (b.size ≤ 2147483647)) := by
  unfold laws_zzFits5.f
  by_cases h1 : (a.size : Int) > 2147483647
  · rw [if_pos h1, decide_eq_false (by omega)]; rfl
  · rw [if_neg h1, decide_eq_true (by omega)]
    by_cases h2 : (b.size : Int) > 2147483647
    · rw [if_pos h2, decide_eq_false (by omega)]; rfl
    · rw [if_neg h2, decide_eq_true (by omega)]; rfl
def fit27 (p : S27) : Bool := decide (p.f0.size ≤ 2147483647) && decide (p.f1.size ≤ 2147483647)
theorem fits4_l (xs : List S27) (hx : xs.length ≤ 9223372036854775807) : ∀ (suf pre : List S27), xs = pre ++ suf → Ev (fun k => laws_zzFits4.l0 k xs xs.length pre.length) (suf.all fit27)
  | [], pre, h => Ev.step (f := fun _ => some true) (fun k => by simp only [laws_zzFits4.l0]; rw [if_neg (ln_not h)]) (Ev.now _)
  | p :: t, pre, h => by
    have e : rd_T27 xs pre.length = p := get_mid h _
    by_cases c : fit27 p = true
    · have ih := fits4_l xs hx t (pre ++ [p]) (lmid_next h)
      rw [List.all_cons, c, Bool.true_and]
      refine Ev.step (fun k => ?_) ih
      simp only [laws_zzFits4.l0]
      rw [if_pos (ln_mid h), if_pos (by omega), if_pos (ln_mid h), e, fits5, Option.bind_some, wrap_lmid h hx]
      exact if_pos c
    · rw [List.all_cons, Bool.eq_false_iff.2 c, Bool.false_and]
      refine Ev.step (f := fun _ => some false) (fun k => ?_) (Ev.now _)
      simp only [laws_zzFits4.l0]
      rw [if_pos (ln_mid h), if_pos (by omega), if_pos (ln_mid h), e, fits5, Option.bind_some]
      exact if_neg c
theorem fits4 (xs : List S27) (hx : xs.length ≤ 9223372036854775807) : ∃ b, Ev (fun k => laws_zzFits4.f k xs) b ∧ (b = true → xs.length ≤ 2147483647) := by
  unfold laws_zzFits4.f
  by_cases h : (xs.length : Int) > 2147483647
  · exact ⟨false, Ev.pos h (Ev.now _), fun h => by cases h⟩
  · exact ⟨_, Ev.neg h (fits4_l xs hx xs [] rfl), fun _ => by omega⟩
/-- The value of a name. -/
def getP (nm : ByteArray) : List (ByteArray × ByteArray) → ByteArray × Bool
  | [] => (⟨#[]⟩, false)
  | p :: t => if p.1 = nm then (p.2, true) else getP nm t
theorem get_l (nm : ByteArray) (xs : List S63) (hx : xs.length ≤ 9223372036854775807) : ∀ (suf pre : List S63), xs = pre ++ suf → Ev (fun k => hertzparam_Params_Get.l0 k nm xs xs.length pre.length) (getP nm (suf.map fun p => (p.f0, p.f1)))
  | [], pre, h => Ev.step (f := fun _ => some (⟨#[]⟩, false)) (fun k => by simp only [hertzparam_Params_Get.l0]; rw [if_neg (ln_not h)]) (Ev.now _)
  | p :: t, pre, h => by
    have e : rd_T63 xs pre.length = p := get_mid h _
    simp only [List.map_cons, getP]
    by_cases c : p.f0 = nm
    · rw [if_pos c]
      refine Ev.step (f := fun _ => some (p.f1, true)) (fun k => ?_) (Ev.now _)
      simp only [hertzparam_Params_Get.l0]
      rw [if_pos (ln_mid h), if_pos (by omega), if_pos (ln_mid h), e, if_pos (tl_eq.2 c)]
    · rw [if_neg c]
      refine Ev.step (fun k => ?_) (get_l nm xs hx t (pre ++ [p]) (lmid_next h))
      simp only [hertzparam_Params_Get.l0]
      rw [if_pos (ln_mid h), if_pos (by omega), if_pos (ln_mid h), e, if_neg (fun q => c (tl_eq.1 q)), wrap_lmid h hx]
theorem paramOf_l (nm : ByteArray) (xs : List S27) (hx : xs.length ≤ 2147483647) : ∀ (suf pre : List S27) (acc : List S63), xs = pre ++ suf → acc = pre.map (fun p => ⟨p.f0, p.f1⟩) →
    Ev (fun k => impl_ParamOf.l0 k nm acc xs xs.length pre.length) (getP nm (xs.map fun p => (p.f0, p.f1)))
  | [], pre, acc, h, ha => by
    have hp : xs = pre := by rw [h, List.append_nil]
    have hal : acc.length = xs.length := by rw [ha, List.length_map, ← hp]
    have g := get_l nm acc (by omega) acc [] rfl
    have e : acc.map (fun p => (p.f0, p.f1)) = xs.map (fun p => (p.f0, p.f1)) := by rw [ha, List.map_map, hp]; rfl
    rw [e] at g
    refine Ev.step (fun k => ?_) (Ev.call (f := fun _ b => some (b.1, b.2)) g (Ev.now _))
    simp only [impl_ParamOf.l0]
    rw [if_neg (ln_not h)]
    rfl
  | p :: t, pre, acc, h, ha => by
    have e : rd_T27 xs pre.length = p := get_mid h _
    have hl := ln_nat h
    have hal : acc.length = pre.length := by rw [ha, List.length_map]
    refine Ev.step (fun k => ?_) (paramOf_l nm xs hx t (pre ++ [p]) (acc ++ [⟨p.f0, p.f1⟩]) (lmid_next h) (by rw [ha, List.map_append]; rfl))
    simp only [impl_ParamOf.l0]
    rw [if_pos (ln_mid h), if_pos (by omega), if_pos (ln_mid h), if_pos (by omega), e, wrap_lmid h (by omega)]
theorem paramOf (nm : ByteArray) (xs : List S27) (hx : xs.length ≤ 2147483647) : Ev (fun k => impl_ParamOf.f k xs nm) (getP nm (xs.map fun p => (p.f0, p.f1))) :=
  paramOf_l nm xs hx xs [] [] rfl rfl
theorem pairsOf_l (xs : List S27) (hx : xs.length ≤ 2147483647) : ∀ (suf pre : List S27) (acc : List S65), xs = pre ++ suf → acc = pre.map (fun p => ⟨p.f0, p.f1⟩) →
    Ev (fun k => laws_pairsOf.l0 k acc xs xs.length pre.length) (xs.map fun p => ⟨p.f0, p.f1⟩)
  | [], pre, acc, h, ha => by
    refine Ev.step (f := fun _ => some acc) (fun k => ?_) (Ev.same (Ev.now _) (by rw [ha, h, List.append_nil]))
    simp only [laws_pairsOf.l0]
    rw [if_neg (ln_not h)]
  | p :: t, pre, acc, h, ha => by
    have e : rd_T27 xs pre.length = p := get_mid h _
    have hl := ln_nat h
    have hal : acc.length = pre.length := by rw [ha, List.length_map]
    refine Ev.step (fun k => ?_) (pairsOf_l xs hx t (pre ++ [p]) (acc ++ [⟨p.f0, p.f1⟩]) (lmid_next h) (by rw [ha, List.map_append]; rfl))
    simp only [laws_pairsOf.l0]
    rw [if_pos (ln_mid h), if_pos (by omega), if_pos (ln_mid h), if_pos (by omega), e, wrap_lmid h (by omega)]
theorem specOf_l (nm : ByteArray) (xs : List S65) (hx : xs.length ≤ 9223372036854775807) : ∀ (suf pre : List S65), xs = pre ++ suf → Ev (fun k => spec_ParamOf.l0 k nm xs xs.length pre.length) (getP nm (suf.map fun p => (p.f0, p.f1)))
  | [], pre, h => Ev.step (f := fun _ => some (⟨#[]⟩, false)) (fun k => by simp only [spec_ParamOf.l0]; rw [if_neg (ln_not h)]) (Ev.now _)
  | p :: t, pre, h => by
    have e : rd_T65 xs pre.length = p := get_mid h _
    simp only [List.map_cons, getP]
    by_cases c : p.f0 = nm
    · rw [if_pos c]
      refine Ev.step (f := fun _ => some (p.f1, true)) (fun k => ?_) (Ev.now _)
      simp only [spec_ParamOf.l0]
      rw [if_pos (ln_mid h), if_pos (by omega), if_pos (ln_mid h), e, if_pos (tl_eq.2 c)]
    · rw [if_neg c]
      refine Ev.step (fun k => ?_) (specOf_l nm xs hx t (pre ++ [p]) (lmid_next h))
      simp only [spec_ParamOf.l0]
      rw [if_pos (ln_mid h), if_pos (by omega), if_pos (ln_mid h), e, if_neg (fun q => c (tl_eq.1 q)), wrap_lmid h hx]
end Go.Proofs.Ytjmcndbkmknemaa.SpA
