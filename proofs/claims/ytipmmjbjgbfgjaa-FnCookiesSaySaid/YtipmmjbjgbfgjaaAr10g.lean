/- Arguments out of data: impl.given. -/
import Derived.Test.YtipmmjbjgbfgjaaQ5
import Derived.Test.YtipmmjbjgbfgjaaAr7
namespace Go.Proofs.Ytipmmjbjgbfgjaa.Q
open Go.RowKit Go.Proofs.YtipmmjbjgbfgjaaW.PrintWords Go.Proofs.YtipmmjbjgbfgjaaW.PrintLast Go.Proofs.YtipmmjbjgbfgjaaW.PrintMore Go.Proofs.YtipmmjbjgbfgjaaKit
open Go.Proofs.Ytipmmjbjgbfgjaa.SpA (toI toI_length toI_append)
set_option linter.unusedVariables false
set_option linter.unusedSimpArgs false
def en36 (x : S40) : En := (x.f0.data.toList, valIf x.f2 x.f1.data.toList, x.f2)
def to74 (x : S40) : S82 := ⟨x.f0, x.f1, x.f2⟩
theorem given_l (l : List S40) (hl : l.length ≤ 4294967296) : ∀ d n, l.length - n = d → n ≤ l.length → Ev (fun k => impl_given.l0 k ((l.take n).map to74) l (l.length : Int) (n : Int)) (l.map to74) := by
  intro d
  induction d with
  | zero =>
    intro n hd hn
    have : n = l.length := by omega
    subst this
    refine Ev.step (f := fun _ => some (l.map to74)) (fun k => ?_) (Ev.now _)
    simp only [impl_given.l0]
    rw [if_neg (by omega), List.take_length]
  | succ d ih =>
    intro n hd hn
    have hr : rd_T40 l (n : Int) = l[n]'(by omega) := by unfold rd_T40; rw [Int.toNat_natCast, List.getD_eq_getElem?_getD, List.getElem?_eq_getElem (by omega)]; rfl
    have hw : wrap64 ((n : Int) + 1) = ((n + 1 : Nat) : Int) := by unfold wrap64; omega
    have ht : (l.take (n + 1)).map to74 = (l.take n).map to74 ++ [⟨(l[n]'(by omega)).f0, (l[n]'(by omega)).f1, (l[n]'(by omega)).f2⟩] := by
      rw [List.take_add_one, List.getElem?_eq_getElem (by omega), List.map_append]; rfl
    have h1 := ih (n + 1) (by omega) (by omega)
    rw [ht] at h1
    refine Ev.step (fun k => ?_) h1
    simp only [impl_given.l0]
    rw [if_pos (by omega), if_pos (by omega), if_pos (by omega), if_pos (by simp; omega), hr, hw]
theorem given_f (l : List S40) (hl : l.length ≤ 4294967296) : Ev (fun k => impl_given.f k l) (l.map to74) := given_l l hl _ 0 rfl (Nat.zero_le _)
end Go.Proofs.Ytipmmjbjgbfgjaa.Q
