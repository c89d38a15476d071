/- The pure statement of FnStatusSays: the reasons of RFC 9110. -/
import Derived.Test.YtipmmjbjgbfgjaaQ4
import Derived.Test.YtipmmjbjgbfgjaaSpStat
namespace Go.Proofs.Ytipmmjbjgbfgjaa.Pure
open Go.RowKit Go.Proofs.Ytipmmjbjgbfgjaa.Q Go.Proofs.YtipmmjbjgbfgjaaW.PrintWords Go.Proofs.YtipmmjbjgbfgjaaW.PrintLast Go.Proofs.YtipmmjbjgbfgjaaKit
theorem case_ite {α β : Type} {c : Prop} [Decidable c] {x y : Option α} {f : α → Option β} {r : Option β} (h1 : c → x.bind f = r) (h2 : ¬ c → y.bind f = r) : (if c then x else y).bind f = r := by
  by_cases h : c
  · rw [if_pos h]; exact h1 h
  · rw [if_neg h]; exact h2 h
set_option maxHeartbeats 4000000 in
theorem FnStatusSays : laws_FnStatusSays.Pure := by
  intro n _
  unfold laws_FnStatusSays.f
  simp only [tl]
  rw [SpStat.ok, Option.bind_some, if_pos rfl]
  unfold spec_StatusText.f spec_clientError.f
  repeat' (refine case_ite (fun h => ?_) (fun _ => ?_))
  all_goals try (subst h; kernel_rfl)
  rw [Option.bind_assoc]
  repeat' (refine case_ite (fun h => ?_) (fun _ => ?_))
  all_goals first | (subst h; kernel_rfl) | rfl
end Go.Proofs.Ytipmmjbjgbfgjaa.Pure
