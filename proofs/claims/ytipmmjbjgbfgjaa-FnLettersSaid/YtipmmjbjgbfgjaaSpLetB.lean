/- Letters turned in rows of bytes: what the plain functions come to. No program in sight. -/
import Derived.Test.YtipmmjbjgbfgjaaQ10
import Derived.Test.YtipmmjbjgbfgjaaQ11
import Derived.Test.YtipmmjbjgbfgjaaQ12
import Derived.Test.YtipmmjbjgbfgjaaQ13
import Derived.Test.YtipmmjbjgbfgjaaQ14
import Derived.Test.YtipmmjbjgbfgjaaQ15
import Derived.Test.YtipmmjbjgbfgjaaSpLet
namespace Go.Proofs.Ytipmmjbjgbfgjaa.SpA
open Go.RowKit Go.Proofs.Ytipmmjbjgbfgjaa.Q Go.Proofs.YtipmmjbjgbfgjaaW.PrintWords Go.Proofs.YtipmmjbjgbfgjaaW.PrintLast Go.Proofs.YtipmmjbjgbfgjaaKit
set_option linter.unusedVariables false
set_option linter.unusedSimpArgs false
theorem tabLo_size : (tab2.size : Int) = 256 := by decide +kernel
theorem tabLo_at (c : UInt8) : bt tab2 (c.toNat : Int) = ((lowB c).toNat : Int) := by rw [tabLow_bt, tabLow_fn]
theorem toI_set_mid (pre t : List UInt8) (c d : UInt8) : (toI (pre ++ c :: t)).set pre.length (d.toNat : Int) = toI ((pre ++ [d]) ++ t) := by
  rw [toI_append, List.set_append_right _ _ (by rw [toI_length]; exact Nat.le_refl _), toI_length, Nat.sub_self]
  simp [toI]
theorem lowBy_l : ∀ (suf pre : List UInt8), (pre ++ suf).length ≤ 140737488355328 → Ev (fun k => fiberutils_ToLowerBytes.l0 k (toI (pre ++ suf)) (pre.length : Int)) (toI (pre ++ suf.map lowB))
  | [], pre, h => by
    refine Ev.step (f := fun _ => some (toI (pre ++ []))) (fun k => ?_) (Ev.now _)
    simp only [fiberutils_ToLowerBytes.l0, toI_length]
    rw [if_neg (by simp)]
  | c :: t, pre, h => by
    have ih := lowBy_l t (pre ++ [lowB c]) (by simp at h ⊢; omega)
    have hr : rd (toI (pre ++ c :: t)) (pre.length : Int) = (c.toNat : Int) := rd_mid rfl
    rw [show pre ++ (c :: t).map lowB = (pre ++ [lowB c]) ++ t.map lowB by simp]
    refine Ev.step (fun k => ?_) ih
    simp only [fiberutils_ToLowerBytes.l0, toI_length]
    rw [if_pos (by simp; omega), if_pos (by omega), hr, if_pos (by omega), if_pos (by rw [tabLo_size]; exact byte256 c), tabLo_at, Int.toNat_natCast, toI_set_mid, wrap_id (by omega) (by simp at h; omega)]
    congr 1
    simp
theorem uppBy_l : ∀ (suf pre : List UInt8), (pre ++ suf).length ≤ 140737488355328 → Ev (fun k => fiberutils_ToUpperBytes.l0 k (toI (pre ++ suf)) (pre.length : Int)) (toI (pre ++ suf.map uppB))
  | [], pre, h => by
    refine Ev.step (f := fun _ => some (toI (pre ++ []))) (fun k => ?_) (Ev.now _)
    simp only [fiberutils_ToUpperBytes.l0, toI_length]
    rw [if_neg (by simp)]
  | c :: t, pre, h => by
    have ih := uppBy_l t (pre ++ [uppB c]) (by simp at h ⊢; omega)
    have hr : rd (toI (pre ++ c :: t)) (pre.length : Int) = (c.toNat : Int) := rd_mid rfl
    rw [show pre ++ (c :: t).map uppB = (pre ++ [uppB c]) ++ t.map uppB by simp]
    refine Ev.step (fun k => ?_) ih
    simp only [fiberutils_ToUpperBytes.l0, toI_length]
    rw [if_pos (by simp; omega), if_pos (by omega), hr, if_pos (by omega), if_pos (by rw [tabU_size]; exact byte256 c), tabU_at, Int.toNat_natCast, toI_set_mid, wrap_id (by omega) (by simp at h; omega)]
    congr 1
    simp
theorem lowerBytes (l : List UInt8) (h : l.length < 140737488355328) : Ev (fun k => impl_LowerBytes.f k (toI l)) (toI (l.map lowB)) := by
  have := lowBy_l l [] (by simp; omega)
  unfold impl_LowerBytes.f
  exact Ev.call (Ev.some rfl) (Ev.pos (by simp [toI_length]; omega) (Ev.call (g := fun k => fiberutils_ToLowerBytes.f k ([] ++ toI l)) this (Ev.now _)))
theorem upperBytes (l : List UInt8) (h : l.length < 140737488355328) : Ev (fun k => impl_UpperBytes.f k (toI l)) (toI (l.map uppB)) := by
  have := uppBy_l l [] (by simp; omega)
  unfold impl_UpperBytes.f
  exact Ev.call (Ev.some rfl) (Ev.pos (by simp [toI_length]; omega) (Ev.call (g := fun k => fiberutils_ToUpperBytes.f k ([] ++ toI l)) this (Ev.now _)))
theorem rd_nat (l : List UInt8) (n : Nat) (h : n < l.length) : rd (toI l) (n : Int) = (l[n].toNat : Int) := by
  unfold rd toI
  rw [Int.toNat_natCast, List.getD_eq_getElem?_getD, List.getElem?_map, List.getElem?_eq_getElem h]
  rfl
theorem foldBy_l (a b : List UInt8) (ha : a.length ≤ 140737488355328) (hab : a.length = b.length) : ∀ n : Nat, n ≤ a.length → Ev (fun k => fiberutils_EqualFoldBytes.l0 k (toI a) (toI b) ((n : Int) - 1)) (decide ((a.take n).map uppB = (b.take n).map uppB)) := by
  intro n
  induction n with
  | zero =>
    intro _
    refine Ev.step (f := fun _ => some true) (fun k => ?_) (Ev.same (Ev.now _) (by simp))
    simp only [fiberutils_EqualFoldBytes.l0]
    rw [if_neg (by omega)]
  | succ n ih =>
    intro hn
    have ih := ih (by omega)
    have hla : n < a.length := by omega
    have hlb : n < b.length := by omega
    have e1 : (((n + 1 : Nat) : Int) - 1) = (n : Int) := by omega
    have hba := rd_nat a n hla
    have hbb := rd_nat b n hlb
    have w : wrap64 ((n : Int) - 1) = (n : Int) - 1 := wrap_id (by omega) (by omega)
    by_cases hc : uppB a[n] = uppB b[n]
    · refine Ev.step (fun k => ?_) (Ev.same ih ?_)
      · simp only [fiberutils_EqualFoldBytes.l0, toI_length]
        rw [e1, if_pos (by omega), if_pos (by omega), if_pos (by omega), hba, hbb, if_pos (by omega), if_pos (by rw [tabU_size]; exact byte256 _), if_pos (by omega), if_pos (by omega), if_pos (by rw [tabU_size]; exact byte256 _), tabU_at, tabU_at, if_pos ((upp_inj _ _).2 hc), w]
      · rw [take_last _ _ hla, take_last _ _ hlb, List.map_append, List.map_append]
        rw [List.map_cons, List.map_nil, List.map_cons, List.map_nil, hc]
        simp only [List.append_cancel_right_eq]
    · refine Ev.step (f := fun _ => some false) (fun k => ?_) (Ev.same (Ev.now _) ?_)
      · simp only [fiberutils_EqualFoldBytes.l0, toI_length]
        rw [e1, if_pos (by omega), if_pos (by omega), if_pos (by omega), hba, hbb, if_pos (by omega), if_pos (by rw [tabU_size]; exact byte256 _), if_pos (by omega), if_pos (by omega), if_pos (by rw [tabU_size]; exact byte256 _), tabU_at, tabU_at, if_neg (fun h => hc ((upp_inj _ _).1 h))]
      · rw [take_last _ _ hla, take_last _ _ hlb, List.map_append, List.map_append]
        symm
        rw [decide_eq_false_iff_not]
        intro h
        have := List.append_inj' h rfl
        simp at this
        exact hc this.2
theorem foldBytes (a b : List UInt8) (ha : a.length ≤ 140737488355328) : Ev (fun k => impl_FoldBytes.f k (toI a) (toI b)) (foldB a b) := by
  have main : Ev (fun k => fiberutils_EqualFoldBytes.f k (toI a) (toI b)) (foldB a b) := by
    unfold fiberutils_EqualFoldBytes.f
    simp only [toI_length]
    by_cases h : (a.length : Int) = (b.length : Int)
    · refine Ev.pos h ?_
      have := foldBy_l a b ha (by omega) a.length (Nat.le_refl _)
      rw [List.take_of_length_le (Nat.le_refl _), List.take_of_length_le (by omega)] at this
      rw [wrap_id (by omega) (by omega)]
      exact this
    · refine Ev.neg h (Ev.same (Ev.now _) ?_)
      symm
      unfold foldB
      rw [decide_eq_false_iff_not]
      intro e
      have := congrArg List.length e
      simp only [List.length_map] at this
      omega
  unfold impl_FoldBytes.f
  exact Ev.call main (Ev.now _)
end Go.Proofs.Ytipmmjbjgbfgjaa.SpA
