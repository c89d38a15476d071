/- The pure statement of FnStatus: outside of 100 to 511 there is no reason. -/
import Derived.Test.YtipmmjbjgbfgjaaQ1
import Derived.Test.YtipmmjbjgbfgjaaSpStat
namespace Go.Proofs.Ytipmmjbjgbfgjaa.Pure
open Go.RowKit Go.Proofs.Ytipmmjbjgbfgjaa.Q Go.Proofs.YtipmmjbjgbfgjaaW.PrintWords Go.Proofs.YtipmmjbjgbfgjaaW.PrintLast Go.Proofs.YtipmmjbjgbfgjaaKit
theorem FnStatus : laws_FnStatus.Pure := by
  intro n _
  unfold laws_FnStatus.f
  simp only [tl]
  rw [SpStat.ok, Option.bind_some, if_pos rfl, SpStat.notFound, Option.bind_some, if_pos rfl]
  by_cases h : n ≥ 100
  · rw [if_pos h]
    by_cases h2 : n ≤ 511
    · rw [if_pos h2]
    · rw [if_neg h2, SpStat.high n (by omega)]
      rfl
  · rw [if_neg h, SpStat.low n (by omega)]
    rfl
end Go.Proofs.Ytipmmjbjgbfgjaa.Pure
