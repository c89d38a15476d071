/-
  No cell of these rows narrows 'for every input' (looked for: loops, veiled, ifaces, maps, wideKeys, modest, calm, conditions, laid).
  DERIVED. THE GIVEN ROWS OF THIS SEAT. 9 by the template 'for every input the law returns true; each argument reads behind the call as it read before'; 0 by the template 'total and deterministic' (their statements: YtipmmjbjgbfgjaaTotals.lean).
  GIVEN WITH THE SEED: the statements are not yours to turn. If you find one false, say at which input.
  Laid BY PROGRAM, IN A SANDBOX (cutbox-rows.mjs): the forced cells as the released guide's own fill.sh prints them over the translation d1ef625a51c4a23d… (all of the seat's roots in one cut). By AI agents, Wed Nov 11 2026. No macro, syntax, notation, axiom, sorry.
-/
import Derived.Test.YtipmmjbjgbfgjaaChecked
import GoSem.Claim
import GoSem.ClaimJoined
import GoSem.ClaimMapViews
import Derived.JoinedTies
import Derived.KernelRfl
namespace Go.Proofs.Ytipmmjbjgbfgjaa
/- THE CELL 'sum', in the pinned program and in every row, IS THE sha256 OF THE DUMP (.gsa) THAT YtipmmjbjgbfgjaaProg.lean LOADS. Nothing in Lean hashes anything: it is a label: what it is worth is what the hold of that sum in a sandbox is worth. -/
noncomputable def Try.pinned : Pinned := { name := "ytipmmjbjgbfgjaa", sum := "d1ef625a51c4a23dd6b275983eeacb5e347279fb8f5492eedf3012c95e1ce021", checked := Try.checked }
namespace Rows
def none {H : Type} : Left H := { results := [], args := [] }

/-- 'laws.FnTrimmed': WHATEVER THE INPUT: true; the input reads as it did. -/
def fnTrimmedSpec : ChangeSpec := { name := "fnTrimmed", fn := fun _ => fun
  | [d1, d2] => { results := [.lit (.bool true)], args := [d1, d2] }
  | _ => none }
def fnTrimmedRow : OpenClaim := { program := "ytipmmjbjgbfgjaa", sum := "d1ef625a51c4a23dd6b275983eeacb5e347279fb8f5492eedf3012c95e1ce021", func := "pub-bridlepath/laws.FnTrimmed", spec := "fnTrimmed", apart := false }
def FnTrimmedSaid : Prop := fnTrimmedRow.holds Try.pinned (OpenSpec.ofChange fnTrimmedSpec)

/-- ITS FALSE NEIGHBOUR: 'it returns false'. Refute it at one input. -/
def fnTrimmedWrong : ChangeSpec := { name := "fnTrimmed", fn := fun _ => fun
  | [d1, d2] => { results := [.lit (.bool false)], args := [d1, d2] }
  | _ => none }
def FnTrimmedWrongFalsely : Prop := fnTrimmedRow.holds Try.pinned (OpenSpec.ofChange fnTrimmedWrong)

/-- 'laws.FnLetters': WHATEVER THE INPUT: true; the input reads as it did. -/
def fnLettersSpec : ChangeSpec := { name := "fnLetters", fn := fun _ => fun
  | [d1, d2] => { results := [.lit (.bool true)], args := [d1, d2] }
  | _ => none }
def fnLettersRow : OpenClaim := { program := "ytipmmjbjgbfgjaa", sum := "d1ef625a51c4a23dd6b275983eeacb5e347279fb8f5492eedf3012c95e1ce021", func := "pub-bridlepath/laws.FnLetters", spec := "fnLetters", apart := false }
def FnLettersSaid : Prop := fnLettersRow.holds Try.pinned (OpenSpec.ofChange fnLettersSpec)

/-- ITS FALSE NEIGHBOUR: 'it returns false'. Refute it at one input. -/
def fnLettersWrong : ChangeSpec := { name := "fnLetters", fn := fun _ => fun
  | [d1, d2] => { results := [.lit (.bool false)], args := [d1, d2] }
  | _ => none }
def FnLettersWrongFalsely : Prop := fnLettersRow.holds Try.pinned (OpenSpec.ofChange fnLettersWrong)

/-- 'laws.FnStatus': WHATEVER THE INPUT: true; the input reads as it did. -/
def fnStatusSpec : ChangeSpec := { name := "fnStatus", fn := fun _ => fun
  | [d] => { results := [.lit (.bool true)], args := [d] }
  | _ => none }
def fnStatusRow : OpenClaim := { program := "ytipmmjbjgbfgjaa", sum := "d1ef625a51c4a23dd6b275983eeacb5e347279fb8f5492eedf3012c95e1ce021", func := "pub-bridlepath/laws.FnStatus", spec := "fnStatus", apart := false }
def FnStatusSaid : Prop := fnStatusRow.holds Try.pinned (OpenSpec.ofChange fnStatusSpec)

/-- ITS FALSE NEIGHBOUR: 'it returns false'. Refute it at one input. -/
def fnStatusWrong : ChangeSpec := { name := "fnStatus", fn := fun _ => fun
  | [d] => { results := [.lit (.bool false)], args := [d] }
  | _ => none }
def FnStatusWrongFalsely : Prop := fnStatusRow.holds Try.pinned (OpenSpec.ofChange fnStatusWrong)

/-- 'laws.FnStatusSays': WHATEVER THE INPUT: true; the input reads as it did. -/
def fnStatusSaysSpec : ChangeSpec := { name := "fnStatusSays", fn := fun _ => fun
  | [d] => { results := [.lit (.bool true)], args := [d] }
  | _ => none }
def fnStatusSaysRow : OpenClaim := { program := "ytipmmjbjgbfgjaa", sum := "d1ef625a51c4a23dd6b275983eeacb5e347279fb8f5492eedf3012c95e1ce021", func := "pub-bridlepath/laws.FnStatusSays", spec := "fnStatusSays", apart := false }
def FnStatusSaysSaid : Prop := fnStatusSaysRow.holds Try.pinned (OpenSpec.ofChange fnStatusSaysSpec)

/-- ITS FALSE NEIGHBOUR: 'it returns false'. Refute it at one input. -/
def fnStatusSaysWrong : ChangeSpec := { name := "fnStatusSays", fn := fun _ => fun
  | [d] => { results := [.lit (.bool false)], args := [d] }
  | _ => none }
def FnStatusSaysWrongFalsely : Prop := fnStatusSaysRow.holds Try.pinned (OpenSpec.ofChange fnStatusSaysWrong)

/-- 'laws.FnCookiesBack': WHATEVER THE INPUT: true; the input reads as it did. -/
def fnCookiesBackSpec : ChangeSpec := { name := "fnCookiesBack", fn := fun _ => fun
  | [d] => { results := [.lit (.bool true)], args := [d] }
  | _ => none }
def fnCookiesBackRow : OpenClaim := { program := "ytipmmjbjgbfgjaa", sum := "d1ef625a51c4a23dd6b275983eeacb5e347279fb8f5492eedf3012c95e1ce021", func := "pub-bridlepath/laws.FnCookiesBack", spec := "fnCookiesBack", apart := false }
def FnCookiesBackSaid : Prop := fnCookiesBackRow.holds Try.pinned (OpenSpec.ofChange fnCookiesBackSpec)

/-- ITS FALSE NEIGHBOUR: 'it returns false'. Refute it at one input. -/
def fnCookiesBackWrong : ChangeSpec := { name := "fnCookiesBack", fn := fun _ => fun
  | [d] => { results := [.lit (.bool false)], args := [d] }
  | _ => none }
def FnCookiesBackWrongFalsely : Prop := fnCookiesBackRow.holds Try.pinned (OpenSpec.ofChange fnCookiesBackWrong)

/-- 'laws.FnCookiesSay': WHATEVER THE INPUT: true; the input reads as it did. -/
def fnCookiesSaySpec : ChangeSpec := { name := "fnCookiesSay", fn := fun _ => fun
  | [d1, d2] => { results := [.lit (.bool true)], args := [d1, d2] }
  | _ => none }
def fnCookiesSayRow : OpenClaim := { program := "ytipmmjbjgbfgjaa", sum := "d1ef625a51c4a23dd6b275983eeacb5e347279fb8f5492eedf3012c95e1ce021", func := "pub-bridlepath/laws.FnCookiesSay", spec := "fnCookiesSay", apart := false }
def FnCookiesSaySaid : Prop := fnCookiesSayRow.holds Try.pinned (OpenSpec.ofChange fnCookiesSaySpec)

/-- ITS FALSE NEIGHBOUR: 'it returns false'. Refute it at one input. -/
def fnCookiesSayWrong : ChangeSpec := { name := "fnCookiesSay", fn := fun _ => fun
  | [d1, d2] => { results := [.lit (.bool false)], args := [d1, d2] }
  | _ => none }
def FnCookiesSayWrongFalsely : Prop := fnCookiesSayRow.holds Try.pinned (OpenSpec.ofChange fnCookiesSayWrong)

/-- 'laws.FnTokensSay': WHATEVER THE INPUT: true; the input reads as it did. -/
def fnTokensSaySpec : ChangeSpec := { name := "fnTokensSay", fn := fun _ => fun
  | [d] => { results := [.lit (.bool true)], args := [d] }
  | _ => none }
def fnTokensSayRow : OpenClaim := { program := "ytipmmjbjgbfgjaa", sum := "d1ef625a51c4a23dd6b275983eeacb5e347279fb8f5492eedf3012c95e1ce021", func := "pub-bridlepath/laws.FnTokensSay", spec := "fnTokensSay", apart := false }
def FnTokensSaySaid : Prop := fnTokensSayRow.holds Try.pinned (OpenSpec.ofChange fnTokensSaySpec)

/-- ITS FALSE NEIGHBOUR: 'it returns false'. Refute it at one input. -/
def fnTokensSayWrong : ChangeSpec := { name := "fnTokensSay", fn := fun _ => fun
  | [d] => { results := [.lit (.bool false)], args := [d] }
  | _ => none }
def FnTokensSayWrongFalsely : Prop := fnTokensSayRow.holds Try.pinned (OpenSpec.ofChange fnTokensSayWrong)

/-- 'laws.FnTokensStand': WHATEVER THE INPUT: true; the input reads as it did. -/
def fnTokensStandSpec : ChangeSpec := { name := "fnTokensStand", fn := fun _ => fun
  | [d] => { results := [.lit (.bool true)], args := [d] }
  | _ => none }
def fnTokensStandRow : OpenClaim := { program := "ytipmmjbjgbfgjaa", sum := "d1ef625a51c4a23dd6b275983eeacb5e347279fb8f5492eedf3012c95e1ce021", func := "pub-bridlepath/laws.FnTokensStand", spec := "fnTokensStand", apart := false }
def FnTokensStandSaid : Prop := fnTokensStandRow.holds Try.pinned (OpenSpec.ofChange fnTokensStandSpec)

/-- ITS FALSE NEIGHBOUR: 'it returns false'. Refute it at one input. -/
def fnTokensStandWrong : ChangeSpec := { name := "fnTokensStand", fn := fun _ => fun
  | [d] => { results := [.lit (.bool false)], args := [d] }
  | _ => none }
def FnTokensStandWrongFalsely : Prop := fnTokensStandRow.holds Try.pinned (OpenSpec.ofChange fnTokensStandWrong)

/-- 'laws.FnSmallSays': WHATEVER THE INPUT: true; the input reads as it did. -/
def fnSmallSaysSpec : ChangeSpec := { name := "fnSmallSays", fn := fun _ => fun
  | [d1, d2, d3] => { results := [.lit (.bool true)], args := [d1, d2, d3] }
  | _ => none }
def fnSmallSaysRow : OpenClaim := { program := "ytipmmjbjgbfgjaa", sum := "d1ef625a51c4a23dd6b275983eeacb5e347279fb8f5492eedf3012c95e1ce021", func := "pub-bridlepath/laws.FnSmallSays", spec := "fnSmallSays", apart := false }
def FnSmallSaysSaid : Prop := fnSmallSaysRow.holds Try.pinned (OpenSpec.ofChange fnSmallSaysSpec)

/-- ITS FALSE NEIGHBOUR: 'it returns false'. Refute it at one input. -/
def fnSmallSaysWrong : ChangeSpec := { name := "fnSmallSays", fn := fun _ => fun
  | [d1, d2, d3] => { results := [.lit (.bool false)], args := [d1, d2, d3] }
  | _ => none }
def FnSmallSaysWrongFalsely : Prop := fnSmallSaysRow.holds Try.pinned (OpenSpec.ofChange fnSmallSaysWrong)

/- THE SECOND FORM. 'bulk': how many values and letters a reading holds, each counted each time it is reached (what is shared counts as often as it is met; a slice's spare places count too). A statement '..UptoSaid' is the law's where the arguments, and the package variables that the reading takes, are together of bulk at most 1048576: NARROWER than '..Said'. Prove '..Said' where nothing that the law and all that it calls make is longer than what came in: it says more and counts as full. Else prove '..UptoSaid'. A law counts once. -/
mutual
def uptoBulk {H : Type} : DataW H → Nat
  | .lit (.string bytes) => bytes.length + 1
  | .lit _ => 1
  | .nil => 1
  | .ptr d => uptoBulk d + 1
  | .slice elems spare => uptoBulkAll elems + uptoBulkAll spare + 1
  | .agg parts => uptoBulkAll parts + 1
  | .iface _ d => uptoBulk d + 1
  | .map entries => uptoBulkEntries entries + 1
  | .held _ => 1
def uptoBulkAll {H : Type} : List (DataW H) → Nat
  | [] => 0
  | d :: r => uptoBulk d + uptoBulkAll r
def uptoBulkEntries {H : Type} : List (Lit × DataW H) → Nat
  | [] => 0
  | x :: r => uptoBulkEntry x + uptoBulkEntries r
def uptoBulkEntry {H : Type} : Lit × DataW H → Nat
  | (.string bytes, d) => bytes.length + uptoBulk d + 1
  | (_, d) => uptoBulk d + 1
 end
def uptoSmall : (H : Type) → List (DataW H) → Bool := fun _ ds => decide (uptoBulkAll ds ≤ 1048576)
def OpenSpec.upto (s : _root_.Go.ChangeSpec) : _root_.Go.OpenSpec := { _root_.Go.OpenSpec.ofChange s with cond := some uptoSmall }

/-- 'laws.FnTrimmed', WHERE WHAT IT READS IS OF BULK AT MOST 1048576: true; the input reads as it did. -/
def fnTrimmedUptoRow : OpenClaim := { program := "ytipmmjbjgbfgjaa", sum := "d1ef625a51c4a23dd6b275983eeacb5e347279fb8f5492eedf3012c95e1ce021", func := "pub-bridlepath/laws.FnTrimmed", spec := "fnTrimmed", apart := false, narrowed := true }
def FnTrimmedUptoSaid : Prop := fnTrimmedUptoRow.holds Try.pinned (OpenSpec.upto fnTrimmedSpec)

/-- 'laws.FnLetters', WHERE WHAT IT READS IS OF BULK AT MOST 1048576: true; the input reads as it did. -/
def fnLettersUptoRow : OpenClaim := { program := "ytipmmjbjgbfgjaa", sum := "d1ef625a51c4a23dd6b275983eeacb5e347279fb8f5492eedf3012c95e1ce021", func := "pub-bridlepath/laws.FnLetters", spec := "fnLetters", apart := false, narrowed := true }
def FnLettersUptoSaid : Prop := fnLettersUptoRow.holds Try.pinned (OpenSpec.upto fnLettersSpec)

/-- 'laws.FnStatus', WHERE WHAT IT READS IS OF BULK AT MOST 1048576: true; the input reads as it did. -/
def fnStatusUptoRow : OpenClaim := { program := "ytipmmjbjgbfgjaa", sum := "d1ef625a51c4a23dd6b275983eeacb5e347279fb8f5492eedf3012c95e1ce021", func := "pub-bridlepath/laws.FnStatus", spec := "fnStatus", apart := false, narrowed := true }
def FnStatusUptoSaid : Prop := fnStatusUptoRow.holds Try.pinned (OpenSpec.upto fnStatusSpec)

/-- 'laws.FnStatusSays', WHERE WHAT IT READS IS OF BULK AT MOST 1048576: true; the input reads as it did. -/
def fnStatusSaysUptoRow : OpenClaim := { program := "ytipmmjbjgbfgjaa", sum := "d1ef625a51c4a23dd6b275983eeacb5e347279fb8f5492eedf3012c95e1ce021", func := "pub-bridlepath/laws.FnStatusSays", spec := "fnStatusSays", apart := false, narrowed := true }
def FnStatusSaysUptoSaid : Prop := fnStatusSaysUptoRow.holds Try.pinned (OpenSpec.upto fnStatusSaysSpec)

/-- 'laws.FnCookiesBack', WHERE WHAT IT READS IS OF BULK AT MOST 1048576: true; the input reads as it did. -/
def fnCookiesBackUptoRow : OpenClaim := { program := "ytipmmjbjgbfgjaa", sum := "d1ef625a51c4a23dd6b275983eeacb5e347279fb8f5492eedf3012c95e1ce021", func := "pub-bridlepath/laws.FnCookiesBack", spec := "fnCookiesBack", apart := false, narrowed := true }
def FnCookiesBackUptoSaid : Prop := fnCookiesBackUptoRow.holds Try.pinned (OpenSpec.upto fnCookiesBackSpec)

/-- 'laws.FnCookiesSay', WHERE WHAT IT READS IS OF BULK AT MOST 1048576: true; the input reads as it did. -/
def fnCookiesSayUptoRow : OpenClaim := { program := "ytipmmjbjgbfgjaa", sum := "d1ef625a51c4a23dd6b275983eeacb5e347279fb8f5492eedf3012c95e1ce021", func := "pub-bridlepath/laws.FnCookiesSay", spec := "fnCookiesSay", apart := false, narrowed := true }
def FnCookiesSayUptoSaid : Prop := fnCookiesSayUptoRow.holds Try.pinned (OpenSpec.upto fnCookiesSaySpec)

/-- 'laws.FnTokensSay', WHERE WHAT IT READS IS OF BULK AT MOST 1048576: true; the input reads as it did. -/
def fnTokensSayUptoRow : OpenClaim := { program := "ytipmmjbjgbfgjaa", sum := "d1ef625a51c4a23dd6b275983eeacb5e347279fb8f5492eedf3012c95e1ce021", func := "pub-bridlepath/laws.FnTokensSay", spec := "fnTokensSay", apart := false, narrowed := true }
def FnTokensSayUptoSaid : Prop := fnTokensSayUptoRow.holds Try.pinned (OpenSpec.upto fnTokensSaySpec)

/-- 'laws.FnTokensStand', WHERE WHAT IT READS IS OF BULK AT MOST 1048576: true; the input reads as it did. -/
def fnTokensStandUptoRow : OpenClaim := { program := "ytipmmjbjgbfgjaa", sum := "d1ef625a51c4a23dd6b275983eeacb5e347279fb8f5492eedf3012c95e1ce021", func := "pub-bridlepath/laws.FnTokensStand", spec := "fnTokensStand", apart := false, narrowed := true }
def FnTokensStandUptoSaid : Prop := fnTokensStandUptoRow.holds Try.pinned (OpenSpec.upto fnTokensStandSpec)

/-- 'laws.FnSmallSays', WHERE WHAT IT READS IS OF BULK AT MOST 1048576: true; the input reads as it did. -/
def fnSmallSaysUptoRow : OpenClaim := { program := "ytipmmjbjgbfgjaa", sum := "d1ef625a51c4a23dd6b275983eeacb5e347279fb8f5492eedf3012c95e1ce021", func := "pub-bridlepath/laws.FnSmallSays", spec := "fnSmallSays", apart := false, narrowed := true }
def FnSmallSaysUptoSaid : Prop := fnSmallSaysUptoRow.holds Try.pinned (OpenSpec.upto fnSmallSaysSpec)

end Rows
end Go.Proofs.Ytipmmjbjgbfgjaa
