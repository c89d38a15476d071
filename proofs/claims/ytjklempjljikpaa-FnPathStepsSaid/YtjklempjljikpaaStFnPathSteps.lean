-- The pure statement of FnPathSteps, and what opens its arguments (by lawrow.py of this session).
import Derived.Test.YtjklempjljikpaaQ14
import Derived.Test.YtjklempjljikpaaOpen
import Derived.ChangeSame
namespace Go.Proofs.Ytjklempjljikpaa.StFnPathSteps
open Go.RowKit Go.ChangeShapes Go.WideShapes Go.Proofs.Ytjklempjljikpaa.Q Go.Proofs.YtjklempjljikpaaW.PrintWords Go.Proofs.YtjklempjljikpaaW.PrintLast
set_option linter.unusedVariables false
set_option linter.unusedSimpArgs false
def Pure : Prop := ∀ (l0 : List (ByteArray)) (a1 : Int) (a2 : ByteArray), l0.length ≤ maxLen → (∀ x ∈ l0, x.size ≤ maxLen) → (Lit.int .i64 a1).wf = true → a2.size ≤ 140737488351232 → ∃ k, laws_FnPathSteps.f k l0 a1 a2 = some true
end Go.Proofs.Ytjklempjljikpaa.StFnPathSteps
