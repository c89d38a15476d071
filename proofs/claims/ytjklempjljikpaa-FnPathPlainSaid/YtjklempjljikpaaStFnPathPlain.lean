-- The pure statement of FnPathPlain, and what opens its arguments (by lawrow.py of this session).
import Derived.Test.YtjklempjljikpaaQ13
import Derived.Test.YtjklempjljikpaaOpen
import Derived.ChangeSame
namespace Go.Proofs.Ytjklempjljikpaa.StFnPathPlain
open Go.RowKit Go.ChangeShapes Go.WideShapes Go.Proofs.Ytjklempjljikpaa.Q Go.Proofs.YtjklempjljikpaaW.PrintWords Go.Proofs.YtjklempjljikpaaW.PrintLast
set_option linter.unusedVariables false
set_option linter.unusedSimpArgs false
def Pure : Prop := ∀ (l0 : List (ByteArray)), l0.length ≤ maxLen → (∀ x ∈ l0, x.size ≤ maxLen) → ∃ k, laws_FnPathPlain.f k l0 = some true
end Go.Proofs.Ytjklempjljikpaa.StFnPathPlain
