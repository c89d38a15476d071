/- Letters turned, texts compared without regard to the case: what the plain functions come to. No program in sight. -/
import Derived.Test.YtipmmjbjgbfgjaaQ7
import Derived.Test.YtipmmjbjgbfgjaaQ8
import Derived.Test.YtipmmjbjgbfgjaaQ9
import Derived.Test.YtipmmjbjgbfgjaaSpBytes
import Derived.Test.YtipmmjbjgbfgjaaLow
namespace Go.Proofs.Ytipmmjbjgbfgjaa.SpA
open Go.RowKit Go.Proofs.Ytipmmjbjgbfgjaa.Q Go.Proofs.YtipmmjbjgbfgjaaW.PrintWords Go.Proofs.YtipmmjbjgbfgjaaW.PrintLast Go.Proofs.YtipmmjbjgbfgjaaKit
set_option linter.unusedVariables false
set_option linter.unusedSimpArgs false
theorem ofNat_self (c : UInt8) : UInt8.ofNat c.toNat = c := by simp
theorem byte_all {p : UInt8 → Prop} (h : ∀ c : Fin 256, p (UInt8.ofNat c)) (c : UInt8) : p c := by have := h ⟨c.toNat, c.toNat_lt⟩; rwa [ofNat_self] at this
theorem tabLow_low (c : UInt8) : tabLow c = lowB c := byte_all (p := fun c => tabLow c = lowB c) (by decide +kernel) c
theorem tabUpp_upp (c : UInt8) : tabUpp c = uppB c := byte_all (p := fun c => tabUpp c = uppB c) (by decide +kernel) c
theorem low_upp (c : UInt8) : lowB (uppB c) = lowB c := byte_all (p := fun c => lowB (uppB c) = lowB c) (by decide +kernel) c
theorem upp_low (c : UInt8) : uppB (lowB c) = uppB c := byte_all (p := fun c => uppB (lowB c) = uppB c) (by decide +kernel) c
theorem tabLow_fn : tabLow = lowB := funext tabLow_low
theorem tabUpp_fn : tabUpp = uppB := funext tabUpp_upp
theorem map_low_upp (l : List UInt8) : (l.map uppB).map lowB = l.map lowB := by rw [List.map_map]; exact List.map_congr_left fun c _ => low_upp c
theorem map_upp_low (l : List UInt8) : (l.map lowB).map uppB = l.map uppB := by rw [List.map_map]; exact List.map_congr_left fun c _ => upp_low c
/-- The two readings of 'alike without regard to the case'. -/
theorem fold_iff (a b : List UInt8) : a.map uppB = b.map uppB ↔ a.map lowB = b.map lowB :=
  ⟨fun h => by rw [← map_low_upp a, h, map_low_upp b], fun h => by rw [← map_upp_low a, h, map_upp_low b]⟩
abbrev bl (l : List UInt8) : ByteArray := ⟨l.toArray⟩
theorem lower_eq (s : ByteArray) (h : s.size ≤ 140737488355328) : impl_Lower.f s = some (bl ((L s).map lowB)) := by
  unfold impl_Lower.f fiberutils_ToLower.f
  rw [if_pos h, tabLow_fn]
  rfl
theorem upper_eq (s : ByteArray) (h : s.size ≤ 140737488355328) : impl_Upper.f s = some (bl ((L s).map uppB)) := by
  unfold impl_Upper.f fiberutils_ToUpper.f
  rw [if_pos h, tabUpp_fn]
  rfl
theorem bl_size (l : List UInt8) : (bl l).size = l.length := by simp [bl, ByteArray.size]
theorem tabU_size : (tab1.size : Int) = 256 := by decide +kernel
theorem tabU_at (c : UInt8) : bt tab1 (c.toNat : Int) = ((uppB c).toNat : Int) := by rw [tabUpp_bt, tabUpp_fn]
theorem upp_inj (x y : UInt8) : ((uppB x).toNat : Int) = ((uppB y).toNat : Int) ↔ uppB x = uppB y := ⟨fun h => UInt8.toNat_inj.1 (by omega), fun h => by rw [h]⟩
theorem byte256 (c : UInt8) : (c.toNat : Int) < 256 := by have := c.toNat_lt; omega
theorem take_last {α : Type} (l : List α) (n : Nat) (h : n < l.length) : l.take (n + 1) = l.take n ++ [l[n]] := List.take_succ_eq_append_getElem h
theorem fold_l (a b : ByteArray) (ha : a.size ≤ 140737488355328) (hab : a.size = b.size) : ∀ n : Nat, n ≤ a.size → Ev (fun k => fiberutils_EqualFold.l0 k a b ((n : Int) - 1)) (decide (((L a).take n).map uppB = ((L b).take n).map uppB)) := by
  intro n
  induction n with
  | zero =>
    intro _
    refine Ev.step (f := fun _ => some true) (fun k => ?_) (Ev.same (Ev.now _) (by simp))
    simp only [fiberutils_EqualFold.l0]
    rw [if_neg (by omega)]
  | succ n ih =>
    intro hn
    have ih := ih (by omega)
    have hla : n < (L a).length := by rw [← size_L]; omega
    have hlb : n < (L b).length := by rw [← size_L]; omega
    have e1 : (((n + 1 : Nat) : Int) - 1) = (n : Int) := by omega
    have hba : bt a (n : Int) = ((L a)[n].toNat : Int) := bt_nat a n hla
    have hbb : bt b (n : Int) = ((L b)[n].toNat : Int) := bt_nat b n hlb
    have w : wrap64 ((n : Int) - 1) = (n : Int) - 1 := wrap_id (by omega) (by omega)
    by_cases hc : uppB (L a)[n] = uppB (L b)[n]
    · refine Ev.step (fun k => ?_) (Ev.same ih ?_)
      · simp only [fiberutils_EqualFold.l0]
        rw [e1, if_pos (by omega), if_pos (by omega), if_pos (by omega), hba, hbb, if_pos (by omega), if_pos (by rw [tabU_size]; exact byte256 _), if_pos (by omega), if_pos (by omega), if_pos (by rw [tabU_size]; exact byte256 _), tabU_at, tabU_at, if_pos ((upp_inj _ _).2 hc), w]
      · rw [take_last _ _ hla, take_last _ _ hlb, List.map_append, List.map_append]
        rw [List.map_cons, List.map_nil, List.map_cons, List.map_nil, hc]
        simp only [List.append_cancel_right_eq]
    · refine Ev.step (f := fun _ => some false) (fun k => ?_) (Ev.same (Ev.now _) ?_)
      · simp only [fiberutils_EqualFold.l0]
        rw [e1, if_pos (by omega), if_pos (by omega), if_pos (by omega), hba, hbb, if_pos (by omega), if_pos (by rw [tabU_size]; exact byte256 _), if_pos (by omega), if_pos (by omega), if_pos (by rw [tabU_size]; exact byte256 _), tabU_at, tabU_at, if_neg (fun h => hc ((upp_inj _ _).1 h))]
      · rw [take_last _ _ hla, take_last _ _ hlb, List.map_append, List.map_append]
        symm
        rw [decide_eq_false_iff_not]
        intro h
        have := List.append_inj' h rfl
        simp at this
        exact hc this.2
def foldB (a b : List UInt8) : Bool := decide (a.map uppB = b.map uppB)
theorem fold_eq (a b : ByteArray) (ha : a.size ≤ 140737488355328) (hb : b.size ≤ 140737488355328) : Ev (fun k => impl_Fold.f k a b) (foldB (L a) (L b)) := by
  have main : Ev (fun k => fiberutils_EqualFold.f k a b) (foldB (L a) (L b)) := by
    unfold fiberutils_EqualFold.f
    by_cases h : (a.size : Int) = (b.size : Int)
    · refine Ev.pos h ?_
      have := fold_l a b ha (by omega) a.size (Nat.le_refl _)
      rw [List.take_of_length_le (by rw [← size_L]; exact Nat.le_refl _), List.take_of_length_le (by rw [← size_L]; omega)] at this
      rw [wrap_id (by omega) (by omega)]
      exact this
    · refine Ev.neg h (Ev.same (Ev.now _) ?_)
      symm
      unfold foldB
      rw [decide_eq_false_iff_not]
      intro e
      have := congrArg List.length e
      simp only [List.length_map, ← size_L] at this
      omega
  unfold impl_Fold.f
  exact Ev.call main (Ev.now _)
theorem lowers_eq : Ev (fun k => laws_lowers.f k) true := by
  unfold laws_lowers.f
  refine Ev.call (Ev.some (lower_eq _ (by decide))) (Ev.pos (by rw [tl]; decide +kernel) (Ev.call (Ev.some (upper_eq _ (by decide))) (Ev.pos (by rw [tl]; decide +kernel) (Ev.call (fold_eq _ _ (by decide) (by decide)) (Ev.same (Ev.now _) (by decide +kernel))))))
end Go.Proofs.Ytipmmjbjgbfgjaa.SpA
