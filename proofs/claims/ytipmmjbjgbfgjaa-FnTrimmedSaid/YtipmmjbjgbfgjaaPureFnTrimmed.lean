/- The pure statement of FnTrimmed: the walk itself has shown that it answers true. -/
import Derived.Test.YtipmmjbjgbfgjaaStFnTrimmed
import Derived.Test.YtipmmjbjgbfgjaaKit
namespace Go.Proofs.Ytipmmjbjgbfgjaa.Pure
open Go.Proofs.Ytipmmjbjgbfgjaa.Q
theorem FnTrimmed : StFnTrimmed.Pure := fun _ _ _ _ => rfl
end Go.Proofs.Ytipmmjbjgbfgjaa.Pure
