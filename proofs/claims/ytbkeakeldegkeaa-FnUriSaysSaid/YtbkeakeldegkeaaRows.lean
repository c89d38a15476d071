/-
  No cell of these rows narrows 'for every input' (looked for: loops, veiled, ifaces, maps, wideKeys, modest, calm, conditions, laid).
  DERIVED. THE GIVEN ROWS OF THIS SEAT. 9 by the template 'for every input the law returns true; each argument reads behind the call as it read before'; 0 by the template 'total and deterministic' (their statements: YtbkeakeldegkeaaTotals.lean).
  GIVEN WITH THE SEED: the statements are not yours to turn. If you find one false, say at which input.
  Laid BY PROGRAM, IN A SANDBOX (cutbox-rows.mjs): the forced cells as the released guide's own fill.sh prints them over the translation a25ff8c928a8e484… (all of the seat's roots in one cut). By AI agents, Wed Nov 11 2026. No macro, syntax, notation, axiom, sorry.
-/
import Derived.Test.YtbkeakeldegkeaaChecked
import GoSem.Claim
import GoSem.ClaimJoined
import GoSem.ClaimMapViews
import Derived.JoinedTies
import Derived.KernelRfl
namespace Go.Proofs.Ytbkeakeldegkeaa
/- THE CELL 'sum', in the pinned program and in every row, IS THE sha256 OF THE DUMP (.gsa) THAT YtbkeakeldegkeaaProg.lean LOADS. Nothing in Lean hashes anything: it is a label: what it is worth is what the hold of that sum in a sandbox is worth. -/
noncomputable def Try.pinned : Pinned := { name := "ytbkeakeldegkeaa", sum := "a25ff8c928a8e48458c7fef085f60813a7de20703ffba350e4df17b607b8eab2", checked := Try.checked }
namespace Rows
def none {H : Type} : Left H := { results := [], args := [] }

/-- 'laws.FnUriHost': WHATEVER THE INPUT: true; the input reads as it did. -/
def fnUriHostSpec : ChangeSpec := { name := "fnUriHost", fn := fun _ => fun
  | [d1, d2] => { results := [.lit (.bool true)], args := [d1, d2] }
  | _ => none }
def fnUriHostRow : OpenClaim := { program := "ytbkeakeldegkeaa", sum := "a25ff8c928a8e48458c7fef085f60813a7de20703ffba350e4df17b607b8eab2", func := "pub-bridlepath/laws.FnUriHost", spec := "fnUriHost", inPlace := ["internal/bytealg.IndexByte"], unfollowed := true, recurses := true, apart := false }
def FnUriHostSaid : Prop := fnUriHostRow.holds Try.pinned (OpenSpec.ofChange fnUriHostSpec)

/-- ITS FALSE NEIGHBOUR: 'it returns false'. Refute it at one input. -/
def fnUriHostWrong : ChangeSpec := { name := "fnUriHost", fn := fun _ => fun
  | [d1, d2] => { results := [.lit (.bool false)], args := [d1, d2] }
  | _ => none }
def FnUriHostWrongFalsely : Prop := fnUriHostRow.holds Try.pinned (OpenSpec.ofChange fnUriHostWrong)

/-- 'laws.FnUriParts': WHATEVER THE INPUT: true; the input reads as it did. -/
def fnUriPartsSpec : ChangeSpec := { name := "fnUriParts", fn := fun _ => fun
  | [d1, d2, d3, d4] => { results := [.lit (.bool true)], args := [d1, d2, d3, d4] }
  | _ => none }
def fnUriPartsRow : OpenClaim := { program := "ytbkeakeldegkeaa", sum := "a25ff8c928a8e48458c7fef085f60813a7de20703ffba350e4df17b607b8eab2", func := "pub-bridlepath/laws.FnUriParts", spec := "fnUriParts", inPlace := ["internal/bytealg.IndexByte"], unfollowed := true, recurses := true, apart := false }
def FnUriPartsSaid : Prop := fnUriPartsRow.holds Try.pinned (OpenSpec.ofChange fnUriPartsSpec)

/-- ITS FALSE NEIGHBOUR: 'it returns false'. Refute it at one input. -/
def fnUriPartsWrong : ChangeSpec := { name := "fnUriParts", fn := fun _ => fun
  | [d1, d2, d3, d4] => { results := [.lit (.bool false)], args := [d1, d2, d3, d4] }
  | _ => none }
def FnUriPartsWrongFalsely : Prop := fnUriPartsRow.holds Try.pinned (OpenSpec.ofChange fnUriPartsWrong)

/-- 'laws.FnPathEscaped': WHATEVER THE INPUT: true; the input reads as it did. -/
def fnPathEscapedSpec : ChangeSpec := { name := "fnPathEscaped", fn := fun _ => fun
  | [d] => { results := [.lit (.bool true)], args := [d] }
  | _ => none }
def fnPathEscapedRow : OpenClaim := { program := "ytbkeakeldegkeaa", sum := "a25ff8c928a8e48458c7fef085f60813a7de20703ffba350e4df17b607b8eab2", func := "pub-bridlepath/laws.FnPathEscaped", spec := "fnPathEscaped", inPlace := ["internal/bytealg.IndexByte"], unfollowed := true, recurses := true, apart := false }
def FnPathEscapedSaid : Prop := fnPathEscapedRow.holds Try.pinned (OpenSpec.ofChange fnPathEscapedSpec)

/-- ITS FALSE NEIGHBOUR: 'it returns false'. Refute it at one input. -/
def fnPathEscapedWrong : ChangeSpec := { name := "fnPathEscaped", fn := fun _ => fun
  | [d] => { results := [.lit (.bool false)], args := [d] }
  | _ => none }
def FnPathEscapedWrongFalsely : Prop := fnPathEscapedRow.holds Try.pinned (OpenSpec.ofChange fnPathEscapedWrong)

/-- 'laws.FnUriAgain': WHATEVER THE INPUT: true; the input reads as it did. -/
def fnUriAgainSpec : ChangeSpec := { name := "fnUriAgain", fn := fun _ => fun
  | [d1, d2] => { results := [.lit (.bool true)], args := [d1, d2] }
  | _ => none }
def fnUriAgainRow : OpenClaim := { program := "ytbkeakeldegkeaa", sum := "a25ff8c928a8e48458c7fef085f60813a7de20703ffba350e4df17b607b8eab2", func := "pub-bridlepath/laws.FnUriAgain", spec := "fnUriAgain", inPlace := ["internal/bytealg.IndexByte"], unfollowed := true, recurses := true, apart := false }
def FnUriAgainSaid : Prop := fnUriAgainRow.holds Try.pinned (OpenSpec.ofChange fnUriAgainSpec)

/-- ITS FALSE NEIGHBOUR: 'it returns false'. Refute it at one input. -/
def fnUriAgainWrong : ChangeSpec := { name := "fnUriAgain", fn := fun _ => fun
  | [d1, d2] => { results := [.lit (.bool false)], args := [d1, d2] }
  | _ => none }
def FnUriAgainWrongFalsely : Prop := fnUriAgainRow.holds Try.pinned (OpenSpec.ofChange fnUriAgainWrong)

/-- 'laws.FnUriSays': WHATEVER THE INPUT: true; the input reads as it did. -/
def fnUriSaysSpec : ChangeSpec := { name := "fnUriSays", fn := fun _ => fun
  | [d1, d2] => { results := [.lit (.bool true)], args := [d1, d2] }
  | _ => none }
def fnUriSaysRow : OpenClaim := { program := "ytbkeakeldegkeaa", sum := "a25ff8c928a8e48458c7fef085f60813a7de20703ffba350e4df17b607b8eab2", func := "pub-bridlepath/laws.FnUriSays", spec := "fnUriSays", inPlace := ["internal/bytealg.IndexByte"], unfollowed := true, recurses := true, apart := false }
def FnUriSaysSaid : Prop := fnUriSaysRow.holds Try.pinned (OpenSpec.ofChange fnUriSaysSpec)

/-- ITS FALSE NEIGHBOUR: 'it returns false'. Refute it at one input. -/
def fnUriSaysWrong : ChangeSpec := { name := "fnUriSays", fn := fun _ => fun
  | [d1, d2] => { results := [.lit (.bool false)], args := [d1, d2] }
  | _ => none }
def FnUriSaysWrongFalsely : Prop := fnUriSaysRow.holds Try.pinned (OpenSpec.ofChange fnUriSaysWrong)

/-- 'laws.FnUriLast': WHATEVER THE INPUT: true; the input reads as it did. -/
def fnUriLastSpec : ChangeSpec := { name := "fnUriLast", fn := fun _ => fun
  | [d1, d2, d3] => { results := [.lit (.bool true)], args := [d1, d2, d3] }
  | _ => none }
def fnUriLastRow : OpenClaim := { program := "ytbkeakeldegkeaa", sum := "a25ff8c928a8e48458c7fef085f60813a7de20703ffba350e4df17b607b8eab2", func := "pub-bridlepath/laws.FnUriLast", spec := "fnUriLast", inPlace := ["internal/bytealg.IndexByte"], unfollowed := true, recurses := true, apart := false }
def FnUriLastSaid : Prop := fnUriLastRow.holds Try.pinned (OpenSpec.ofChange fnUriLastSpec)

/-- ITS FALSE NEIGHBOUR: 'it returns false'. Refute it at one input. -/
def fnUriLastWrong : ChangeSpec := { name := "fnUriLast", fn := fun _ => fun
  | [d1, d2, d3] => { results := [.lit (.bool false)], args := [d1, d2, d3] }
  | _ => none }
def FnUriLastWrongFalsely : Prop := fnUriLastRow.holds Try.pinned (OpenSpec.ofChange fnUriLastWrong)

/-- 'laws.FnUriMade': WHATEVER THE INPUT: true; the input reads as it did. -/
def fnUriMadeSpec : ChangeSpec := { name := "fnUriMade", fn := fun _ => fun
  | [d1, d2, d3, d4] => { results := [.lit (.bool true)], args := [d1, d2, d3, d4] }
  | _ => none }
def fnUriMadeRow : OpenClaim := { program := "ytbkeakeldegkeaa", sum := "a25ff8c928a8e48458c7fef085f60813a7de20703ffba350e4df17b607b8eab2", func := "pub-bridlepath/laws.FnUriMade", spec := "fnUriMade", inPlace := ["internal/bytealg.IndexByte"], unfollowed := true, recurses := true, apart := false }
def FnUriMadeSaid : Prop := fnUriMadeRow.holds Try.pinned (OpenSpec.ofChange fnUriMadeSpec)

/-- ITS FALSE NEIGHBOUR: 'it returns false'. Refute it at one input. -/
def fnUriMadeWrong : ChangeSpec := { name := "fnUriMade", fn := fun _ => fun
  | [d1, d2, d3, d4] => { results := [.lit (.bool false)], args := [d1, d2, d3, d4] }
  | _ => none }
def FnUriMadeWrongFalsely : Prop := fnUriMadeRow.holds Try.pinned (OpenSpec.ofChange fnUriMadeWrong)

/-- 'laws.FnUpdatesSay': WHATEVER THE INPUT: true; the input reads as it did. -/
def fnUpdatesSaySpec : ChangeSpec := { name := "fnUpdatesSay", fn := fun _ => fun
  | [d1, d2] => { results := [.lit (.bool true)], args := [d1, d2] }
  | _ => none }
def fnUpdatesSayRow : OpenClaim := { program := "ytbkeakeldegkeaa", sum := "a25ff8c928a8e48458c7fef085f60813a7de20703ffba350e4df17b607b8eab2", func := "pub-bridlepath/laws.FnUpdatesSay", spec := "fnUpdatesSay", inPlace := ["internal/bytealg.IndexByte", "internal/bytealg.MakeNoZero"], unfollowed := true, recurses := true, apart := false }
def FnUpdatesSaySaid : Prop := fnUpdatesSayRow.holds Try.pinned (OpenSpec.ofChange fnUpdatesSaySpec)

/-- ITS FALSE NEIGHBOUR: 'it returns false'. Refute it at one input. -/
def fnUpdatesSayWrong : ChangeSpec := { name := "fnUpdatesSay", fn := fun _ => fun
  | [d1, d2] => { results := [.lit (.bool false)], args := [d1, d2] }
  | _ => none }
def FnUpdatesSayWrongFalsely : Prop := fnUpdatesSayRow.holds Try.pinned (OpenSpec.ofChange fnUpdatesSayWrong)

/-- 'laws.FnUriUpdated': WHATEVER THE INPUT: true; the input reads as it did. -/
def fnUriUpdatedSpec : ChangeSpec := { name := "fnUriUpdated", fn := fun _ => fun
  | [d1, d2, d3, d4] => { results := [.lit (.bool true)], args := [d1, d2, d3, d4] }
  | _ => none }
def fnUriUpdatedRow : OpenClaim := { program := "ytbkeakeldegkeaa", sum := "a25ff8c928a8e48458c7fef085f60813a7de20703ffba350e4df17b607b8eab2", func := "pub-bridlepath/laws.FnUriUpdated", spec := "fnUriUpdated", inPlace := ["internal/bytealg.IndexByte", "internal/bytealg.MakeNoZero"], unfollowed := true, recurses := true, apart := false }
def FnUriUpdatedSaid : Prop := fnUriUpdatedRow.holds Try.pinned (OpenSpec.ofChange fnUriUpdatedSpec)

/-- ITS FALSE NEIGHBOUR: 'it returns false'. Refute it at one input. -/
def fnUriUpdatedWrong : ChangeSpec := { name := "fnUriUpdated", fn := fun _ => fun
  | [d1, d2, d3, d4] => { results := [.lit (.bool false)], args := [d1, d2, d3, d4] }
  | _ => none }
def FnUriUpdatedWrongFalsely : Prop := fnUriUpdatedRow.holds Try.pinned (OpenSpec.ofChange fnUriUpdatedWrong)

/- THE SECOND FORM. 'bulk': how many values and letters a reading holds, each counted each time it is reached (what is shared counts as often as it is met; a slice's spare places count too). A statement '..UptoSaid' is the law's where the arguments, and the package variables that the reading takes, are together of bulk at most 1048576: NARROWER than '..Said'. Prove '..Said' where nothing that the law and all that it calls make is longer than what came in: it says more and counts as full. Else prove '..UptoSaid'. A law counts once. -/
mutual
def uptoBulk {H : Type} : DataW H → Nat
  | .lit (.string bytes) => bytes.length + 1
  | .lit _ => 1
  | .nil => 1
  | .ptr d => uptoBulk d + 1
  | .slice elems spare => uptoBulkAll elems + uptoBulkAll spare + 1
  | .agg parts => uptoBulkAll parts + 1
  | .iface _ d => uptoBulk d + 1
  | .map entries => uptoBulkEntries entries + 1
  | .held _ => 1
def uptoBulkAll {H : Type} : List (DataW H) → Nat
  | [] => 0
  | d :: r => uptoBulk d + uptoBulkAll r
def uptoBulkEntries {H : Type} : List (Lit × DataW H) → Nat
  | [] => 0
  | x :: r => uptoBulkEntry x + uptoBulkEntries r
def uptoBulkEntry {H : Type} : Lit × DataW H → Nat
  | (.string bytes, d) => bytes.length + uptoBulk d + 1
  | (_, d) => uptoBulk d + 1
 end
def uptoSmall : (H : Type) → List (DataW H) → Bool := fun _ ds => decide (uptoBulkAll ds ≤ 1048576)
def OpenSpec.upto (s : _root_.Go.ChangeSpec) : _root_.Go.OpenSpec := { _root_.Go.OpenSpec.ofChange s with cond := some uptoSmall }

/-- 'laws.FnUriHost', WHERE WHAT IT READS IS OF BULK AT MOST 1048576: true; the input reads as it did. -/
def fnUriHostUptoRow : OpenClaim := { program := "ytbkeakeldegkeaa", sum := "a25ff8c928a8e48458c7fef085f60813a7de20703ffba350e4df17b607b8eab2", func := "pub-bridlepath/laws.FnUriHost", spec := "fnUriHost", inPlace := ["internal/bytealg.IndexByte"], unfollowed := true, recurses := true, apart := false, narrowed := true }
def FnUriHostUptoSaid : Prop := fnUriHostUptoRow.holds Try.pinned (OpenSpec.upto fnUriHostSpec)

/-- 'laws.FnUriParts', WHERE WHAT IT READS IS OF BULK AT MOST 1048576: true; the input reads as it did. -/
def fnUriPartsUptoRow : OpenClaim := { program := "ytbkeakeldegkeaa", sum := "a25ff8c928a8e48458c7fef085f60813a7de20703ffba350e4df17b607b8eab2", func := "pub-bridlepath/laws.FnUriParts", spec := "fnUriParts", inPlace := ["internal/bytealg.IndexByte"], unfollowed := true, recurses := true, apart := false, narrowed := true }
def FnUriPartsUptoSaid : Prop := fnUriPartsUptoRow.holds Try.pinned (OpenSpec.upto fnUriPartsSpec)

/-- 'laws.FnPathEscaped', WHERE WHAT IT READS IS OF BULK AT MOST 1048576: true; the input reads as it did. -/
def fnPathEscapedUptoRow : OpenClaim := { program := "ytbkeakeldegkeaa", sum := "a25ff8c928a8e48458c7fef085f60813a7de20703ffba350e4df17b607b8eab2", func := "pub-bridlepath/laws.FnPathEscaped", spec := "fnPathEscaped", inPlace := ["internal/bytealg.IndexByte"], unfollowed := true, recurses := true, apart := false, narrowed := true }
def FnPathEscapedUptoSaid : Prop := fnPathEscapedUptoRow.holds Try.pinned (OpenSpec.upto fnPathEscapedSpec)

/-- 'laws.FnUriAgain', WHERE WHAT IT READS IS OF BULK AT MOST 1048576: true; the input reads as it did. -/
def fnUriAgainUptoRow : OpenClaim := { program := "ytbkeakeldegkeaa", sum := "a25ff8c928a8e48458c7fef085f60813a7de20703ffba350e4df17b607b8eab2", func := "pub-bridlepath/laws.FnUriAgain", spec := "fnUriAgain", inPlace := ["internal/bytealg.IndexByte"], unfollowed := true, recurses := true, apart := false, narrowed := true }
def FnUriAgainUptoSaid : Prop := fnUriAgainUptoRow.holds Try.pinned (OpenSpec.upto fnUriAgainSpec)

/-- 'laws.FnUriSays', WHERE WHAT IT READS IS OF BULK AT MOST 1048576: true; the input reads as it did. -/
def fnUriSaysUptoRow : OpenClaim := { program := "ytbkeakeldegkeaa", sum := "a25ff8c928a8e48458c7fef085f60813a7de20703ffba350e4df17b607b8eab2", func := "pub-bridlepath/laws.FnUriSays", spec := "fnUriSays", inPlace := ["internal/bytealg.IndexByte"], unfollowed := true, recurses := true, apart := false, narrowed := true }
def FnUriSaysUptoSaid : Prop := fnUriSaysUptoRow.holds Try.pinned (OpenSpec.upto fnUriSaysSpec)

/-- 'laws.FnUriLast', WHERE WHAT IT READS IS OF BULK AT MOST 1048576: true; the input reads as it did. -/
def fnUriLastUptoRow : OpenClaim := { program := "ytbkeakeldegkeaa", sum := "a25ff8c928a8e48458c7fef085f60813a7de20703ffba350e4df17b607b8eab2", func := "pub-bridlepath/laws.FnUriLast", spec := "fnUriLast", inPlace := ["internal/bytealg.IndexByte"], unfollowed := true, recurses := true, apart := false, narrowed := true }
def FnUriLastUptoSaid : Prop := fnUriLastUptoRow.holds Try.pinned (OpenSpec.upto fnUriLastSpec)

/-- 'laws.FnUriMade', WHERE WHAT IT READS IS OF BULK AT MOST 1048576: true; the input reads as it did. -/
def fnUriMadeUptoRow : OpenClaim := { program := "ytbkeakeldegkeaa", sum := "a25ff8c928a8e48458c7fef085f60813a7de20703ffba350e4df17b607b8eab2", func := "pub-bridlepath/laws.FnUriMade", spec := "fnUriMade", inPlace := ["internal/bytealg.IndexByte"], unfollowed := true, recurses := true, apart := false, narrowed := true }
def FnUriMadeUptoSaid : Prop := fnUriMadeUptoRow.holds Try.pinned (OpenSpec.upto fnUriMadeSpec)

/-- 'laws.FnUpdatesSay', WHERE WHAT IT READS IS OF BULK AT MOST 1048576: true; the input reads as it did. -/
def fnUpdatesSayUptoRow : OpenClaim := { program := "ytbkeakeldegkeaa", sum := "a25ff8c928a8e48458c7fef085f60813a7de20703ffba350e4df17b607b8eab2", func := "pub-bridlepath/laws.FnUpdatesSay", spec := "fnUpdatesSay", inPlace := ["internal/bytealg.IndexByte", "internal/bytealg.MakeNoZero"], unfollowed := true, recurses := true, apart := false, narrowed := true }
def FnUpdatesSayUptoSaid : Prop := fnUpdatesSayUptoRow.holds Try.pinned (OpenSpec.upto fnUpdatesSaySpec)

/-- 'laws.FnUriUpdated', WHERE WHAT IT READS IS OF BULK AT MOST 1048576: true; the input reads as it did. -/
def fnUriUpdatedUptoRow : OpenClaim := { program := "ytbkeakeldegkeaa", sum := "a25ff8c928a8e48458c7fef085f60813a7de20703ffba350e4df17b607b8eab2", func := "pub-bridlepath/laws.FnUriUpdated", spec := "fnUriUpdated", inPlace := ["internal/bytealg.IndexByte", "internal/bytealg.MakeNoZero"], unfollowed := true, recurses := true, apart := false, narrowed := true }
def FnUriUpdatedUptoSaid : Prop := fnUriUpdatedUptoRow.holds Try.pinned (OpenSpec.upto fnUriUpdatedSpec)

end Rows
end Go.Proofs.Ytbkeakeldegkeaa
