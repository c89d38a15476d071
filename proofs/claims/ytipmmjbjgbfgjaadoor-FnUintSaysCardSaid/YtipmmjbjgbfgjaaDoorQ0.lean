-- Written by a program of this session out of the translation, with the kit's printer. Not trusted: Lean checks it.
import Derived.Test.YtipmmjbjgbfgjaaDoorProg
import Derived.Below
import Derived.Deep.Draws
import Derived.Deep.AppendLies
import Derived.Maps.AppendAt
import Derived.OwnWalk
import Derived.Laws.BytesArg
import Derived.Laws.MakeOwn
import Derived.Laws.OwnMore
import Derived.Deep.OwnRows
import Derived.Tactics
import Derived.Lib.ConvBytes
import Derived.Laws.Slices
import Derived.WalkKit
import Derived.KernelRfl
import Derived.RowKit3
import Derived.Deep.LoopGhost
import Derived.Deep.QuietTactic
import Derived.BigQuiet
import Derived.WideLaws
import Derived.Deep.DeepCutAuto
import Derived.Deep.CutBlock
import Derived.Deep.RegionHeld3
import Derived.Laws.Rows
import Derived.Lib.AppendStr
import Derived.ArgAppend
import Derived.Laws.IdiomCopy
import Derived.OrdersHeld
import Derived.Laws.BitsLemmas
import Derived.RowKit
import Derived.Test.YtipmmjbjgbfgjaaDoorX
import Derived.Laws.Externs
import Derived.Lib.BytesEntry
import Derived.Lib.Bytealg
import Derived.WalkSpells
import Derived.Test.YtipmmjbjgbfgjaaDoorWWords
import Derived.Test.YtipmmjbjgbfgjaaDoorWLast
import Derived.Test.YtipmmjbjgbfgjaaDoorWTab
import Derived.Test.YtipmmjbjgbfgjaaDoorWFour
import Derived.Test.YtipmmjbjgbfgjaaDoorWQPut
import Derived.Test.YtipmmjbjgbfgjaaDoorWApart
import Derived.Test.YtipmmjbjgbfgjaaDoorWArr
import Derived.Test.YtipmmjbjgbfgjaaDoorWZeros
import Derived.Test.YtipmmjbjgbfgjaaDoorWFoot
import Derived.Test.YtipmmjbjgbfgjaaDoorWKept
import Derived.Test.YtipmmjbjgbfgjaaDoorWShare
import Derived.Test.YtipmmjbjgbfgjaaDoorWN
import Derived.Test.YtipmmjbjgbfgjaaDoorWFootNe
import Derived.Test.YtipmmjbjgbfgjaaDoorWAt
import Derived.Test.YtipmmjbjgbfgjaaDoorWEqStruct
import Derived.Test.YtipmmjbjgbfgjaaDoorWRepsOne
import Derived.Test.YtipmmjbjgbfgjaaDoorWInv
import Derived.Test.YtipmmjbjgbfgjaaDoorWInvWords
import Derived.Test.YtipmmjbjgbfgjaaDoorWGuard
import Derived.Test.YtipmmjbjgbfgjaaDoorWNEv
import Derived.Test.YtipmmjbjgbfgjaaDoorWMore
namespace Go.Proofs.YtipmmjbjgbfgjaaDoor.Q
open Go.RowKit Go.Proofs.YtipmmjbjgbfgjaaDoorW.PrintWords Go.Proofs.YtipmmjbjgbfgjaaDoorW.PrintLast Go.Proofs.YtipmmjbjgbfgjaaDoorW.PrintMore
attribute [local go_sem] max2_int min2_int max_two min_two max_three min_three max_four min_four   -- for this text's walks alone
set_option linter.unusedVariables false
set_option linter.unusedSimpArgs false



def errW : Option Int → Value
  | none => .nilIface
  | some c => .iface 0 (.int .i64 c)
theorem errW_none : errW none = .nilIface := rfl
theorem errW_some (c : Int) : errW (some c) = .iface 0 (.int .i64 c) := rfl

theorem info5 : (Tryd.prog.info? 5).map (fun i => (i.zero, i.size, i.bytes)) = some (some (.int .u8 0), 1, 1) := by kernel_rfl
theorem info9 : (Tryd.prog.info? 9).map (fun i => (i.zero, i.size, i.bytes)) = some (some (.string ⟨#[]⟩), 1, 16) := by kernel_rfl
-- the values' own types

end Go.Proofs.YtipmmjbjgbfgjaaDoor.Q
