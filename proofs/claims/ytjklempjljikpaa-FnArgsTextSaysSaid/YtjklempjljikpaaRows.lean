/-
  No cell of these rows narrows 'for every input' (looked for: loops, veiled, ifaces, maps, wideKeys, modest, calm, conditions, laid).
  DERIVED. THE GIVEN ROWS OF THIS SEAT. 10 by the template 'for every input the law returns true; each argument reads behind the call as it read before'; 0 by the template 'total and deterministic' (their statements: YtjklempjljikpaaTotals.lean).
  GIVEN WITH THE SEED: the statements are not yours to turn. If you find one false, say at which input.
  Laid BY PROGRAM, IN A SANDBOX (cutbox-rows.mjs): the forced cells as the released guide's own fill.sh prints them over the translation 7fbbd9e6a1004866… (all of the seat's roots in one cut). By AI agents, Wed Nov 11 2026. No macro, syntax, notation, axiom, sorry.
-/
import Derived.Test.YtjklempjljikpaaChecked
import GoSem.Claim
import GoSem.ClaimJoined
import GoSem.ClaimMapViews
import Derived.JoinedTies
import Derived.KernelRfl
namespace Go.Proofs.Ytjklempjljikpaa
/- THE CELL 'sum', in the pinned program and in every row, IS THE sha256 OF THE DUMP (.gsa) THAT YtjklempjljikpaaProg.lean LOADS. Nothing in Lean hashes anything: it is a label: what it is worth is what the hold of that sum in a sandbox is worth. -/
noncomputable def Try.pinned : Pinned := { name := "ytjklempjljikpaa", sum := "7fbbd9e6a1004866a3965661ea79bbd6487fcb99d2d1a2369e4445628059bdec", checked := Try.checked }
namespace Rows
def none {H : Type} : Left H := { results := [], args := [] }

/-- 'laws.FnCleanSays': WHATEVER THE INPUT: true; the input reads as it did. -/
def fnCleanSaysSpec : ChangeSpec := { name := "fnCleanSays", fn := fun _ => fun
  | [d] => { results := [.lit (.bool true)], args := [d] }
  | _ => none }
def fnCleanSaysRow : OpenClaim := { program := "ytjklempjljikpaa", sum := "7fbbd9e6a1004866a3965661ea79bbd6487fcb99d2d1a2369e4445628059bdec", func := "pub-bridlepath/laws.FnCleanSays", spec := "fnCleanSays", inPlace := ["internal/bytealg.IndexByte"], apart := false }
def FnCleanSaysSaid : Prop := fnCleanSaysRow.holds Try.pinned (OpenSpec.ofChange fnCleanSaysSpec)

/-- ITS FALSE NEIGHBOUR: 'it returns false'. Refute it at one input. -/
def fnCleanSaysWrong : ChangeSpec := { name := "fnCleanSays", fn := fun _ => fun
  | [d] => { results := [.lit (.bool false)], args := [d] }
  | _ => none }
def FnCleanSaysWrongFalsely : Prop := fnCleanSaysRow.holds Try.pinned (OpenSpec.ofChange fnCleanSaysWrong)

/-- 'laws.FnPathClean': WHATEVER THE INPUT: true; the input reads as it did. -/
def fnPathCleanSpec : ChangeSpec := { name := "fnPathClean", fn := fun _ => fun
  | [d] => { results := [.lit (.bool true)], args := [d] }
  | _ => none }
def fnPathCleanRow : OpenClaim := { program := "ytjklempjljikpaa", sum := "7fbbd9e6a1004866a3965661ea79bbd6487fcb99d2d1a2369e4445628059bdec", func := "pub-bridlepath/laws.FnPathClean", spec := "fnPathClean", inPlace := ["internal/bytealg.IndexByte"], apart := false }
def FnPathCleanSaid : Prop := fnPathCleanRow.holds Try.pinned (OpenSpec.ofChange fnPathCleanSpec)

/-- ITS FALSE NEIGHBOUR: 'it returns false'. Refute it at one input. -/
def fnPathCleanWrong : ChangeSpec := { name := "fnPathClean", fn := fun _ => fun
  | [d] => { results := [.lit (.bool false)], args := [d] }
  | _ => none }
def FnPathCleanWrongFalsely : Prop := fnPathCleanRow.holds Try.pinned (OpenSpec.ofChange fnPathCleanWrong)

/-- 'laws.FnPathPlain': WHATEVER THE INPUT: true; the input reads as it did. -/
def fnPathPlainSpec : ChangeSpec := { name := "fnPathPlain", fn := fun _ => fun
  | [d] => { results := [.lit (.bool true)], args := [d] }
  | _ => none }
def fnPathPlainRow : OpenClaim := { program := "ytjklempjljikpaa", sum := "7fbbd9e6a1004866a3965661ea79bbd6487fcb99d2d1a2369e4445628059bdec", func := "pub-bridlepath/laws.FnPathPlain", spec := "fnPathPlain", inPlace := ["internal/bytealg.IndexByte"], apart := false }
def FnPathPlainSaid : Prop := fnPathPlainRow.holds Try.pinned (OpenSpec.ofChange fnPathPlainSpec)

/-- ITS FALSE NEIGHBOUR: 'it returns false'. Refute it at one input. -/
def fnPathPlainWrong : ChangeSpec := { name := "fnPathPlain", fn := fun _ => fun
  | [d] => { results := [.lit (.bool false)], args := [d] }
  | _ => none }
def FnPathPlainWrongFalsely : Prop := fnPathPlainRow.holds Try.pinned (OpenSpec.ofChange fnPathPlainWrong)

/-- 'laws.FnPathSteps': WHATEVER THE INPUT: true; the input reads as it did. -/
def fnPathStepsSpec : ChangeSpec := { name := "fnPathSteps", fn := fun _ => fun
  | [d1, d2, d3] => { results := [.lit (.bool true)], args := [d1, d2, d3] }
  | _ => none }
def fnPathStepsRow : OpenClaim := { program := "ytjklempjljikpaa", sum := "7fbbd9e6a1004866a3965661ea79bbd6487fcb99d2d1a2369e4445628059bdec", func := "pub-bridlepath/laws.FnPathSteps", spec := "fnPathSteps", inPlace := ["internal/bytealg.IndexByte"], apart := false }
def FnPathStepsSaid : Prop := fnPathStepsRow.holds Try.pinned (OpenSpec.ofChange fnPathStepsSpec)

/-- ITS FALSE NEIGHBOUR: 'it returns false'. Refute it at one input. -/
def fnPathStepsWrong : ChangeSpec := { name := "fnPathSteps", fn := fun _ => fun
  | [d1, d2, d3] => { results := [.lit (.bool false)], args := [d1, d2, d3] }
  | _ => none }
def FnPathStepsWrongFalsely : Prop := fnPathStepsRow.holds Try.pinned (OpenSpec.ofChange fnPathStepsWrong)

/-- 'laws.FnArgsAgain': WHATEVER THE INPUT: true; the input reads as it did. -/
def fnArgsAgainSpec : ChangeSpec := { name := "fnArgsAgain", fn := fun _ => fun
  | [d] => { results := [.lit (.bool true)], args := [d] }
  | _ => none }
def fnArgsAgainRow : OpenClaim := { program := "ytjklempjljikpaa", sum := "7fbbd9e6a1004866a3965661ea79bbd6487fcb99d2d1a2369e4445628059bdec", func := "pub-bridlepath/laws.FnArgsAgain", spec := "fnArgsAgain", inPlace := ["internal/bytealg.IndexByte"], apart := false }
def FnArgsAgainSaid : Prop := fnArgsAgainRow.holds Try.pinned (OpenSpec.ofChange fnArgsAgainSpec)

/-- ITS FALSE NEIGHBOUR: 'it returns false'. Refute it at one input. -/
def fnArgsAgainWrong : ChangeSpec := { name := "fnArgsAgain", fn := fun _ => fun
  | [d] => { results := [.lit (.bool false)], args := [d] }
  | _ => none }
def FnArgsAgainWrongFalsely : Prop := fnArgsAgainRow.holds Try.pinned (OpenSpec.ofChange fnArgsAgainWrong)

/-- 'laws.FnArgsBack': WHATEVER THE INPUT: true; the input reads as it did. -/
def fnArgsBackSpec : ChangeSpec := { name := "fnArgsBack", fn := fun _ => fun
  | [d] => { results := [.lit (.bool true)], args := [d] }
  | _ => none }
def fnArgsBackRow : OpenClaim := { program := "ytjklempjljikpaa", sum := "7fbbd9e6a1004866a3965661ea79bbd6487fcb99d2d1a2369e4445628059bdec", func := "pub-bridlepath/laws.FnArgsBack", spec := "fnArgsBack", inPlace := ["internal/bytealg.IndexByte"], apart := false }
def FnArgsBackSaid : Prop := fnArgsBackRow.holds Try.pinned (OpenSpec.ofChange fnArgsBackSpec)

/-- ITS FALSE NEIGHBOUR: 'it returns false'. Refute it at one input. -/
def fnArgsBackWrong : ChangeSpec := { name := "fnArgsBack", fn := fun _ => fun
  | [d] => { results := [.lit (.bool false)], args := [d] }
  | _ => none }
def FnArgsBackWrongFalsely : Prop := fnArgsBackRow.holds Try.pinned (OpenSpec.ofChange fnArgsBackWrong)

/-- 'laws.FnArgsJoined': WHATEVER THE INPUT: true; the input reads as it did. -/
def fnArgsJoinedSpec : ChangeSpec := { name := "fnArgsJoined", fn := fun _ => fun
  | [d1, d2] => { results := [.lit (.bool true)], args := [d1, d2] }
  | _ => none }
def fnArgsJoinedRow : OpenClaim := { program := "ytjklempjljikpaa", sum := "7fbbd9e6a1004866a3965661ea79bbd6487fcb99d2d1a2369e4445628059bdec", func := "pub-bridlepath/laws.FnArgsJoined", spec := "fnArgsJoined", inPlace := ["internal/bytealg.IndexByte"], apart := false }
def FnArgsJoinedSaid : Prop := fnArgsJoinedRow.holds Try.pinned (OpenSpec.ofChange fnArgsJoinedSpec)

/-- ITS FALSE NEIGHBOUR: 'it returns false'. Refute it at one input. -/
def fnArgsJoinedWrong : ChangeSpec := { name := "fnArgsJoined", fn := fun _ => fun
  | [d1, d2] => { results := [.lit (.bool false)], args := [d1, d2] }
  | _ => none }
def FnArgsJoinedWrongFalsely : Prop := fnArgsJoinedRow.holds Try.pinned (OpenSpec.ofChange fnArgsJoinedWrong)

/-- 'laws.FnArgsSay': WHATEVER THE INPUT: true; the input reads as it did. -/
def fnArgsSaySpec : ChangeSpec := { name := "fnArgsSay", fn := fun _ => fun
  | [d] => { results := [.lit (.bool true)], args := [d] }
  | _ => none }
def fnArgsSayRow : OpenClaim := { program := "ytjklempjljikpaa", sum := "7fbbd9e6a1004866a3965661ea79bbd6487fcb99d2d1a2369e4445628059bdec", func := "pub-bridlepath/laws.FnArgsSay", spec := "fnArgsSay", inPlace := ["internal/bytealg.IndexByte"], apart := false }
def FnArgsSaySaid : Prop := fnArgsSayRow.holds Try.pinned (OpenSpec.ofChange fnArgsSaySpec)

/-- ITS FALSE NEIGHBOUR: 'it returns false'. Refute it at one input. -/
def fnArgsSayWrong : ChangeSpec := { name := "fnArgsSay", fn := fun _ => fun
  | [d] => { results := [.lit (.bool false)], args := [d] }
  | _ => none }
def FnArgsSayWrongFalsely : Prop := fnArgsSayRow.holds Try.pinned (OpenSpec.ofChange fnArgsSayWrong)

/-- 'laws.FnArgsTextSays': WHATEVER THE INPUT: true; the input reads as it did. -/
def fnArgsTextSaysSpec : ChangeSpec := { name := "fnArgsTextSays", fn := fun _ => fun
  | [d] => { results := [.lit (.bool true)], args := [d] }
  | _ => none }
def fnArgsTextSaysRow : OpenClaim := { program := "ytjklempjljikpaa", sum := "7fbbd9e6a1004866a3965661ea79bbd6487fcb99d2d1a2369e4445628059bdec", func := "pub-bridlepath/laws.FnArgsTextSays", spec := "fnArgsTextSays", inPlace := ["internal/bytealg.IndexByte"], apart := false }
def FnArgsTextSaysSaid : Prop := fnArgsTextSaysRow.holds Try.pinned (OpenSpec.ofChange fnArgsTextSaysSpec)

/-- ITS FALSE NEIGHBOUR: 'it returns false'. Refute it at one input. -/
def fnArgsTextSaysWrong : ChangeSpec := { name := "fnArgsTextSays", fn := fun _ => fun
  | [d] => { results := [.lit (.bool false)], args := [d] }
  | _ => none }
def FnArgsTextSaysWrongFalsely : Prop := fnArgsTextSaysRow.holds Try.pinned (OpenSpec.ofChange fnArgsTextSaysWrong)

/-- 'laws.FnArgEscaped': WHATEVER THE INPUT: true; the input reads as it did. -/
def fnArgEscapedSpec : ChangeSpec := { name := "fnArgEscaped", fn := fun _ => fun
  | [d1, d2] => { results := [.lit (.bool true)], args := [d1, d2] }
  | _ => none }
def fnArgEscapedRow : OpenClaim := { program := "ytjklempjljikpaa", sum := "7fbbd9e6a1004866a3965661ea79bbd6487fcb99d2d1a2369e4445628059bdec", func := "pub-bridlepath/laws.FnArgEscaped", spec := "fnArgEscaped", inPlace := ["internal/bytealg.IndexByte"], apart := false }
def FnArgEscapedSaid : Prop := fnArgEscapedRow.holds Try.pinned (OpenSpec.ofChange fnArgEscapedSpec)

/-- ITS FALSE NEIGHBOUR: 'it returns false'. Refute it at one input. -/
def fnArgEscapedWrong : ChangeSpec := { name := "fnArgEscaped", fn := fun _ => fun
  | [d1, d2] => { results := [.lit (.bool false)], args := [d1, d2] }
  | _ => none }
def FnArgEscapedWrongFalsely : Prop := fnArgEscapedRow.holds Try.pinned (OpenSpec.ofChange fnArgEscapedWrong)

/- THE SECOND FORM. 'bulk': how many values and letters a reading holds, each counted each time it is reached (what is shared counts as often as it is met; a slice's spare places count too). A statement '..UptoSaid' is the law's where the arguments, and the package variables that the reading takes, are together of bulk at most 1048576: NARROWER than '..Said'. Prove '..Said' where nothing that the law and all that it calls make is longer than what came in: it says more and counts as full. Else prove '..UptoSaid'. A law counts once. -/
mutual
def uptoBulk {H : Type} : DataW H → Nat
  | .lit (.string bytes) => bytes.length + 1
  | .lit _ => 1
  | .nil => 1
  | .ptr d => uptoBulk d + 1
  | .slice elems spare => uptoBulkAll elems + uptoBulkAll spare + 1
  | .agg parts => uptoBulkAll parts + 1
  | .iface _ d => uptoBulk d + 1
  | .map entries => uptoBulkEntries entries + 1
  | .held _ => 1
def uptoBulkAll {H : Type} : List (DataW H) → Nat
  | [] => 0
  | d :: r => uptoBulk d + uptoBulkAll r
def uptoBulkEntries {H : Type} : List (Lit × DataW H) → Nat
  | [] => 0
  | x :: r => uptoBulkEntry x + uptoBulkEntries r
def uptoBulkEntry {H : Type} : Lit × DataW H → Nat
  | (.string bytes, d) => bytes.length + uptoBulk d + 1
  | (_, d) => uptoBulk d + 1
 end
def uptoSmall : (H : Type) → List (DataW H) → Bool := fun _ ds => decide (uptoBulkAll ds ≤ 1048576)
def OpenSpec.upto (s : _root_.Go.ChangeSpec) : _root_.Go.OpenSpec := { _root_.Go.OpenSpec.ofChange s with cond := some uptoSmall }

/-- 'laws.FnCleanSays', WHERE WHAT IT READS IS OF BULK AT MOST 1048576: true; the input reads as it did. -/
def fnCleanSaysUptoRow : OpenClaim := { program := "ytjklempjljikpaa", sum := "7fbbd9e6a1004866a3965661ea79bbd6487fcb99d2d1a2369e4445628059bdec", func := "pub-bridlepath/laws.FnCleanSays", spec := "fnCleanSays", inPlace := ["internal/bytealg.IndexByte"], apart := false, narrowed := true }
def FnCleanSaysUptoSaid : Prop := fnCleanSaysUptoRow.holds Try.pinned (OpenSpec.upto fnCleanSaysSpec)

/-- 'laws.FnPathClean', WHERE WHAT IT READS IS OF BULK AT MOST 1048576: true; the input reads as it did. -/
def fnPathCleanUptoRow : OpenClaim := { program := "ytjklempjljikpaa", sum := "7fbbd9e6a1004866a3965661ea79bbd6487fcb99d2d1a2369e4445628059bdec", func := "pub-bridlepath/laws.FnPathClean", spec := "fnPathClean", inPlace := ["internal/bytealg.IndexByte"], apart := false, narrowed := true }
def FnPathCleanUptoSaid : Prop := fnPathCleanUptoRow.holds Try.pinned (OpenSpec.upto fnPathCleanSpec)

/-- 'laws.FnPathPlain', WHERE WHAT IT READS IS OF BULK AT MOST 1048576: true; the input reads as it did. -/
def fnPathPlainUptoRow : OpenClaim := { program := "ytjklempjljikpaa", sum := "7fbbd9e6a1004866a3965661ea79bbd6487fcb99d2d1a2369e4445628059bdec", func := "pub-bridlepath/laws.FnPathPlain", spec := "fnPathPlain", inPlace := ["internal/bytealg.IndexByte"], apart := false, narrowed := true }
def FnPathPlainUptoSaid : Prop := fnPathPlainUptoRow.holds Try.pinned (OpenSpec.upto fnPathPlainSpec)

/-- 'laws.FnPathSteps', WHERE WHAT IT READS IS OF BULK AT MOST 1048576: true; the input reads as it did. -/
def fnPathStepsUptoRow : OpenClaim := { program := "ytjklempjljikpaa", sum := "7fbbd9e6a1004866a3965661ea79bbd6487fcb99d2d1a2369e4445628059bdec", func := "pub-bridlepath/laws.FnPathSteps", spec := "fnPathSteps", inPlace := ["internal/bytealg.IndexByte"], apart := false, narrowed := true }
def FnPathStepsUptoSaid : Prop := fnPathStepsUptoRow.holds Try.pinned (OpenSpec.upto fnPathStepsSpec)

/-- 'laws.FnArgsAgain', WHERE WHAT IT READS IS OF BULK AT MOST 1048576: true; the input reads as it did. -/
def fnArgsAgainUptoRow : OpenClaim := { program := "ytjklempjljikpaa", sum := "7fbbd9e6a1004866a3965661ea79bbd6487fcb99d2d1a2369e4445628059bdec", func := "pub-bridlepath/laws.FnArgsAgain", spec := "fnArgsAgain", inPlace := ["internal/bytealg.IndexByte"], apart := false, narrowed := true }
def FnArgsAgainUptoSaid : Prop := fnArgsAgainUptoRow.holds Try.pinned (OpenSpec.upto fnArgsAgainSpec)

/-- 'laws.FnArgsBack', WHERE WHAT IT READS IS OF BULK AT MOST 1048576: true; the input reads as it did. -/
def fnArgsBackUptoRow : OpenClaim := { program := "ytjklempjljikpaa", sum := "7fbbd9e6a1004866a3965661ea79bbd6487fcb99d2d1a2369e4445628059bdec", func := "pub-bridlepath/laws.FnArgsBack", spec := "fnArgsBack", inPlace := ["internal/bytealg.IndexByte"], apart := false, narrowed := true }
def FnArgsBackUptoSaid : Prop := fnArgsBackUptoRow.holds Try.pinned (OpenSpec.upto fnArgsBackSpec)

/-- 'laws.FnArgsJoined', WHERE WHAT IT READS IS OF BULK AT MOST 1048576: true; the input reads as it did. -/
def fnArgsJoinedUptoRow : OpenClaim := { program := "ytjklempjljikpaa", sum := "7fbbd9e6a1004866a3965661ea79bbd6487fcb99d2d1a2369e4445628059bdec", func := "pub-bridlepath/laws.FnArgsJoined", spec := "fnArgsJoined", inPlace := ["internal/bytealg.IndexByte"], apart := false, narrowed := true }
def FnArgsJoinedUptoSaid : Prop := fnArgsJoinedUptoRow.holds Try.pinned (OpenSpec.upto fnArgsJoinedSpec)

/-- 'laws.FnArgsSay', WHERE WHAT IT READS IS OF BULK AT MOST 1048576: true; the input reads as it did. -/
def fnArgsSayUptoRow : OpenClaim := { program := "ytjklempjljikpaa", sum := "7fbbd9e6a1004866a3965661ea79bbd6487fcb99d2d1a2369e4445628059bdec", func := "pub-bridlepath/laws.FnArgsSay", spec := "fnArgsSay", inPlace := ["internal/bytealg.IndexByte"], apart := false, narrowed := true }
def FnArgsSayUptoSaid : Prop := fnArgsSayUptoRow.holds Try.pinned (OpenSpec.upto fnArgsSaySpec)

/-- 'laws.FnArgsTextSays', WHERE WHAT IT READS IS OF BULK AT MOST 1048576: true; the input reads as it did. -/
def fnArgsTextSaysUptoRow : OpenClaim := { program := "ytjklempjljikpaa", sum := "7fbbd9e6a1004866a3965661ea79bbd6487fcb99d2d1a2369e4445628059bdec", func := "pub-bridlepath/laws.FnArgsTextSays", spec := "fnArgsTextSays", inPlace := ["internal/bytealg.IndexByte"], apart := false, narrowed := true }
def FnArgsTextSaysUptoSaid : Prop := fnArgsTextSaysUptoRow.holds Try.pinned (OpenSpec.upto fnArgsTextSaysSpec)

/-- 'laws.FnArgEscaped', WHERE WHAT IT READS IS OF BULK AT MOST 1048576: true; the input reads as it did. -/
def fnArgEscapedUptoRow : OpenClaim := { program := "ytjklempjljikpaa", sum := "7fbbd9e6a1004866a3965661ea79bbd6487fcb99d2d1a2369e4445628059bdec", func := "pub-bridlepath/laws.FnArgEscaped", spec := "fnArgEscaped", inPlace := ["internal/bytealg.IndexByte"], apart := false, narrowed := true }
def FnArgEscapedUptoSaid : Prop := fnArgEscapedUptoRow.holds Try.pinned (OpenSpec.upto fnArgEscapedSpec)

end Rows
end Go.Proofs.Ytjklempjljikpaa
