-- The pure statement of FnTrimmed, and what opens its arguments (by lawrow.py of this session).
import Derived.Test.YtipmmjbjgbfgjaaQ4
import Derived.Test.YtipmmjbjgbfgjaaOpen
import Derived.ChangeSame
namespace Go.Proofs.Ytipmmjbjgbfgjaa.StFnTrimmed
open Go.RowKit Go.ChangeShapes Go.WideShapes Go.Proofs.Ytipmmjbjgbfgjaa.Q Go.Proofs.YtipmmjbjgbfgjaaW.PrintWords Go.Proofs.YtipmmjbjgbfgjaaW.PrintLast
set_option linter.unusedVariables false
set_option linter.unusedSimpArgs false
set_option maxRecDepth 100000
def Pure : Prop := ∀ (a0 : ByteArray) (a1 : Int), a0.size ≤ 140737488351232 → (Lit.int .u8 a1).wf = true → laws_FnTrimmed.f a0 a1 = some true
end Go.Proofs.Ytipmmjbjgbfgjaa.StFnTrimmed
