/- The law FnTrimmed, walked. -/
import Derived.Test.YtipmmjbjgbfgjaaFtA
import Derived.Test.YtipmmjbjgbfgjaaFtB
namespace Go.Proofs.Ytipmmjbjgbfgjaa.Q
open Go.RowKit Go.Proofs.YtipmmjbjgbfgjaaW.PrintWords Go.Proofs.YtipmmjbjgbfgjaaW.PrintLast Go.Proofs.YtipmmjbjgbfgjaaW.PrintMore
set_option maxHeartbeats 4000000 in
set_option maxRecDepth 100000 in
theorem trimmed_calls (s : ByteArray) (cv : Int) (w : World) :
    Calls Try.prog 3 #[.string s, .int .u8 cv] w fun e w' => e = .returned (.bool true) ∧ Below w.heap.size w w' := by
  by_cases hsz : (s.size : Int) > 2147483647
  · have b1 := decide_eq_true hsz
    clear hsz
    go_enter Try.func3, Try.ntmps3
    go_wp2
    go_ret
    exact ⟨rfl, Below.refl _ _⟩
  · by_cases h : SpA.ldS s cv < s.size
    · exact trimmedA_calls s cv w (by omega) h
    · exact trimmedB_calls s cv w (by omega) h
end Go.Proofs.Ytipmmjbjgbfgjaa.Q
