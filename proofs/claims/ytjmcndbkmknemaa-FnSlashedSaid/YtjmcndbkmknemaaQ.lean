-- Written by a program of this session out of the translation, with the kit's printer. Not trusted: Lean checks it.
import Derived.Test.YtjmcndbkmknemaaQ0
import Derived.Test.YtjmcndbkmknemaaQ1
import Derived.Test.YtjmcndbkmknemaaQ2
import Derived.Test.YtjmcndbkmknemaaQ3
import Derived.Test.YtjmcndbkmknemaaQ4
import Derived.Test.YtjmcndbkmknemaaQ5
import Derived.Test.YtjmcndbkmknemaaQ6
import Derived.Test.YtjmcndbkmknemaaQ7
import Derived.Test.YtjmcndbkmknemaaQ8
import Derived.Test.YtjmcndbkmknemaaQ9
import Derived.Test.YtjmcndbkmknemaaQ10
namespace Go.Proofs.Ytjmcndbkmknemaa.Q
open Go.RowKit Go.Proofs.YtjmcndbkmknemaaW.PrintWords Go.Proofs.YtjmcndbkmknemaaW.PrintLast Go.Proofs.YtjmcndbkmknemaaW.PrintMore
attribute [local go_sem] max2_int min2_int max_two min_two max_three min_three max_four min_four   -- for this text's walks alone
set_option linter.unusedVariables false
set_option linter.unusedSimpArgs false

end Go.Proofs.Ytjmcndbkmknemaa.Q
