/- Arguments as data: impl.args. -/
import Derived.Test.YtipmmjbjgbfgjaaQ1
import Derived.Test.YtipmmjbjgbfgjaaAr4g
namespace Go.Proofs.Ytipmmjbjgbfgjaa.Q
open Go.RowKit Go.Proofs.YtipmmjbjgbfgjaaW.PrintWords Go.Proofs.YtipmmjbjgbfgjaaW.PrintLast Go.Proofs.YtipmmjbjgbfgjaaW.PrintMore Go.Proofs.YtipmmjbjgbfgjaaKit
open Go.Proofs.Ytipmmjbjgbfgjaa.SpA (toI toI_length toI_append)
set_option linter.unusedVariables false
set_option linter.unusedSimpArgs false
def zzS (x : En) : S82 := ⟨⟨x.1.toArray⟩, ⟨x.2.1.toArray⟩, x.2.2⟩
def arS (x : En) : S40 := ⟨⟨x.1.toArray⟩, ⟨x.2.1.toArray⟩, x.2.2⟩
theorem strOf_toI (l : List UInt8) : strOfNums (toI l) = ⟨l.toArray⟩ := ext (by rw [SpA.L_strOf])
theorem conv_R {w : World} {base : Nat} {ok : Nat → Prop} {A : Option Addr} {n c : Nat} {l : List UInt8} (h : Kd.R (Kd.int .u8) 5 w base ok (.slice A n c) (toI l)) : (convert 24 9 (.slice A n c)).run Try.prog w = .ok (.string ⟨l.toArray⟩) w := by
  obtain ⟨hn, _, hc⟩ := Kd.R_reads' h
  have := Kd.C_string (P := Try.prog) (c := c) Try.underlying24 Try.underlying5 Try.underlying9 hc
  rw [← hn, strOf_toI] at this
  exact this
theorem args_l (l : List S82) (hl : l.length ≤ 4294967296) : ∀ d n, l.length - n = d → n ≤ l.length → Ev (fun k => impl_args.l0 k ((l.take n).map fun x => (⟨x.f0, x.f1, x.f2⟩ : S40)) l (l.length : Int) (n : Int)) (l.map fun x => (⟨x.f0, x.f1, x.f2⟩ : S40)) := by
  intro d
  induction d with
  | zero =>
    intro n hd hn
    have : n = l.length := by omega
    subst this
    refine Ev.step (f := fun _ => some (l.map fun x => (⟨x.f0, x.f1, x.f2⟩ : S40))) (fun k => ?_) (Ev.now _)
    simp only [impl_args.l0]
    rw [if_neg (by omega), List.take_length]
  | succ d ih =>
    intro n hd hn
    have hr : rd_T82 l (n : Int) = l[n]'(by omega) := by unfold rd_T82; rw [Int.toNat_natCast, List.getD_eq_getElem?_getD, List.getElem?_eq_getElem (by omega)]; rfl
    have hw : wrap64 ((n : Int) + 1) = ((n + 1 : Nat) : Int) := by unfold wrap64; omega
    have ht : (l.take (n + 1)).map (fun x => (⟨x.f0, x.f1, x.f2⟩ : S40)) = (l.take n).map (fun x => (⟨x.f0, x.f1, x.f2⟩ : S40)) ++ [⟨(l[n]'(by omega)).f0, (l[n]'(by omega)).f1, (l[n]'(by omega)).f2⟩] := by
      rw [List.take_add_one, List.getElem?_eq_getElem (by omega), List.map_append]; rfl
    have h1 := ih (n + 1) (by omega) (by omega)
    rw [ht] at h1
    refine Ev.step (fun k => ?_) h1
    simp only [impl_args.l0]
    rw [if_pos (by omega), if_pos (by omega), if_pos (by omega), if_pos (by simp; omega), hr, hw]
theorem args_f (fin : List En) (hl : fin.length ≤ 4294967296) : Ev (fun k => impl_args.f k (fin.map zzS)) (fin.map arS) := by
  have h := args_l (fin.map zzS) (by simpa using hl) _ 0 rfl (Nat.zero_le _)
  rw [List.map_map] at h
  exact h
end Go.Proofs.Ytipmmjbjgbfgjaa.Q
