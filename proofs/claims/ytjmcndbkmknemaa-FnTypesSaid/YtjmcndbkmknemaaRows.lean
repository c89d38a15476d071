/-
  No cell of these rows narrows 'for every input' (looked for: loops, veiled, ifaces, maps, wideKeys, modest, calm, conditions, laid).
  DERIVED. THE GIVEN ROWS OF THIS SEAT. 12 by the template 'for every input the law returns true; each argument reads behind the call as it read before'; 0 by the template 'total and deterministic' (their statements: YtjmcndbkmknemaaTotals.lean).
  GIVEN WITH THE SEED: the statements are not yours to turn. If you find one false, say at which input.
  Laid BY PROGRAM, IN A SANDBOX (cutbox-rows.mjs): the forced cells as the released guide's own fill.sh prints them over the translation c4b1af3ead92c3a5… (all of the seat's roots in one cut). By AI agents, Wed Nov 11 2026. No macro, syntax, notation, axiom, sorry.
-/
import Derived.Test.YtjmcndbkmknemaaChecked
import GoSem.Claim
import GoSem.ClaimJoined
import GoSem.ClaimMapViews
import Derived.JoinedTies
import Derived.KernelRfl
namespace Go.Proofs.Ytjmcndbkmknemaa
/- THE CELL 'sum', in the pinned program and in every row, IS THE sha256 OF THE DUMP (.gsa) THAT YtjmcndbkmknemaaProg.lean LOADS. Nothing in Lean hashes anything: it is a label: what it is worth is what the hold of that sum in a sandbox is worth. -/
noncomputable def Try.pinned : Pinned := { name := "ytjmcndbkmknemaa", sum := "c4b1af3ead92c3a5cee79f30edb5ee7fccee47f9aa1ad3d6cb5188ad752e070b", checked := Try.checked }
namespace Rows
def none {H : Type} : Left H := { results := [], args := [] }

/-- 'laws.FnParamOf': WHATEVER THE INPUT: true; the input reads as it did. -/
def fnParamOfSpec : ChangeSpec := { name := "fnParamOf", fn := fun _ => fun
  | [d1, d2] => { results := [.lit (.bool true)], args := [d1, d2] }
  | _ => none }
def fnParamOfRow : OpenClaim := { program := "ytjmcndbkmknemaa", sum := "c4b1af3ead92c3a5cee79f30edb5ee7fccee47f9aa1ad3d6cb5188ad752e070b", func := "pub-bridlepath/laws.FnParamOf", spec := "fnParamOf", apart := false }
def FnParamOfSaid : Prop := fnParamOfRow.holds Try.pinned (OpenSpec.ofChange fnParamOfSpec)

/-- ITS FALSE NEIGHBOUR: 'it returns false'. Refute it at one input. -/
def fnParamOfWrong : ChangeSpec := { name := "fnParamOf", fn := fun _ => fun
  | [d1, d2] => { results := [.lit (.bool false)], args := [d1, d2] }
  | _ => none }
def FnParamOfWrongFalsely : Prop := fnParamOfRow.holds Try.pinned (OpenSpec.ofChange fnParamOfWrong)

/-- 'laws.FnParamSays': WHATEVER THE INPUT: true; the input reads as it did. -/
def fnParamSaysSpec : ChangeSpec := { name := "fnParamSays", fn := fun _ => fun
  | [d1, d2] => { results := [.lit (.bool true)], args := [d1, d2] }
  | _ => none }
def fnParamSaysRow : OpenClaim := { program := "ytjmcndbkmknemaa", sum := "c4b1af3ead92c3a5cee79f30edb5ee7fccee47f9aa1ad3d6cb5188ad752e070b", func := "pub-bridlepath/laws.FnParamSays", spec := "fnParamSays", apart := false }
def FnParamSaysSaid : Prop := fnParamSaysRow.holds Try.pinned (OpenSpec.ofChange fnParamSaysSpec)

/-- ITS FALSE NEIGHBOUR: 'it returns false'. Refute it at one input. -/
def fnParamSaysWrong : ChangeSpec := { name := "fnParamSays", fn := fun _ => fun
  | [d1, d2] => { results := [.lit (.bool false)], args := [d1, d2] }
  | _ => none }
def FnParamSaysWrongFalsely : Prop := fnParamSaysRow.holds Try.pinned (OpenSpec.ofChange fnParamSaysWrong)

/-- 'laws.FnSlashed': WHATEVER THE INPUT: true; the input reads as it did. -/
def fnSlashedSpec : ChangeSpec := { name := "fnSlashed", fn := fun _ => fun
  | [d] => { results := [.lit (.bool true)], args := [d] }
  | _ => none }
def fnSlashedRow : OpenClaim := { program := "ytjmcndbkmknemaa", sum := "c4b1af3ead92c3a5cee79f30edb5ee7fccee47f9aa1ad3d6cb5188ad752e070b", func := "pub-bridlepath/laws.FnSlashed", spec := "fnSlashed", apart := false }
def FnSlashedSaid : Prop := fnSlashedRow.holds Try.pinned (OpenSpec.ofChange fnSlashedSpec)

/-- ITS FALSE NEIGHBOUR: 'it returns false'. Refute it at one input. -/
def fnSlashedWrong : ChangeSpec := { name := "fnSlashed", fn := fun _ => fun
  | [d] => { results := [.lit (.bool false)], args := [d] }
  | _ => none }
def FnSlashedWrongFalsely : Prop := fnSlashedRow.holds Try.pinned (OpenSpec.ofChange fnSlashedWrong)

/-- 'laws.FnParamTrimmed': WHATEVER THE INPUT: true; the input reads as it did. -/
def fnParamTrimmedSpec : ChangeSpec := { name := "fnParamTrimmed", fn := fun _ => fun
  | [d] => { results := [.lit (.bool true)], args := [d] }
  | _ => none }
def fnParamTrimmedRow : OpenClaim := { program := "ytjmcndbkmknemaa", sum := "c4b1af3ead92c3a5cee79f30edb5ee7fccee47f9aa1ad3d6cb5188ad752e070b", func := "pub-bridlepath/laws.FnParamTrimmed", spec := "fnParamTrimmed", apart := false }
def FnParamTrimmedSaid : Prop := fnParamTrimmedRow.holds Try.pinned (OpenSpec.ofChange fnParamTrimmedSpec)

/-- ITS FALSE NEIGHBOUR: 'it returns false'. Refute it at one input. -/
def fnParamTrimmedWrong : ChangeSpec := { name := "fnParamTrimmed", fn := fun _ => fun
  | [d] => { results := [.lit (.bool false)], args := [d] }
  | _ => none }
def FnParamTrimmedWrongFalsely : Prop := fnParamTrimmedRow.holds Try.pinned (OpenSpec.ofChange fnParamTrimmedWrong)

/-- 'laws.FnUnescapedSigns': WHATEVER THE INPUT: true; the input reads as it did. -/
def fnUnescapedSignsSpec : ChangeSpec := { name := "fnUnescapedSigns", fn := fun _ => fun
  | [d] => { results := [.lit (.bool true)], args := [d] }
  | _ => none }
def fnUnescapedSignsRow : OpenClaim := { program := "ytjmcndbkmknemaa", sum := "c4b1af3ead92c3a5cee79f30edb5ee7fccee47f9aa1ad3d6cb5188ad752e070b", func := "pub-bridlepath/laws.FnUnescapedSigns", spec := "fnUnescapedSigns", inPlace := ["internal/bytealg.IndexByteString"], apart := false }
def FnUnescapedSignsSaid : Prop := fnUnescapedSignsRow.holds Try.pinned (OpenSpec.ofChange fnUnescapedSignsSpec)

/-- ITS FALSE NEIGHBOUR: 'it returns false'. Refute it at one input. -/
def fnUnescapedSignsWrong : ChangeSpec := { name := "fnUnescapedSigns", fn := fun _ => fun
  | [d] => { results := [.lit (.bool false)], args := [d] }
  | _ => none }
def FnUnescapedSignsWrongFalsely : Prop := fnUnescapedSignsRow.holds Try.pinned (OpenSpec.ofChange fnUnescapedSignsWrong)

/-- 'laws.FnHexBack': WHATEVER THE INPUT: true; the input reads as it did. -/
def fnHexBackSpec : ChangeSpec := { name := "fnHexBack", fn := fun _ => fun
  | [d] => { results := [.lit (.bool true)], args := [d] }
  | _ => none }
def fnHexBackRow : OpenClaim := { program := "ytjmcndbkmknemaa", sum := "c4b1af3ead92c3a5cee79f30edb5ee7fccee47f9aa1ad3d6cb5188ad752e070b", func := "pub-bridlepath/laws.FnHexBack", spec := "fnHexBack", apart := false }
def FnHexBackSaid : Prop := fnHexBackRow.holds Try.pinned (OpenSpec.ofChange fnHexBackSpec)

/-- ITS FALSE NEIGHBOUR: 'it returns false'. Refute it at one input. -/
def fnHexBackWrong : ChangeSpec := { name := "fnHexBack", fn := fun _ => fun
  | [d] => { results := [.lit (.bool false)], args := [d] }
  | _ => none }
def FnHexBackWrongFalsely : Prop := fnHexBackRow.holds Try.pinned (OpenSpec.ofChange fnHexBackWrong)

/-- 'laws.FnFirstType': WHATEVER THE INPUT: true; the input reads as it did. -/
def fnFirstTypeSpec : ChangeSpec := { name := "fnFirstType", fn := fun _ => fun
  | [d] => { results := [.lit (.bool true)], args := [d] }
  | _ => none }
def fnFirstTypeRow : OpenClaim := { program := "ytjmcndbkmknemaa", sum := "c4b1af3ead92c3a5cee79f30edb5ee7fccee47f9aa1ad3d6cb5188ad752e070b", func := "pub-bridlepath/laws.FnFirstType", spec := "fnFirstType", unfollowed := true, recurses := true, apart := false }
def FnFirstTypeSaid : Prop := fnFirstTypeRow.holds Try.pinned (OpenSpec.ofChange fnFirstTypeSpec)

/-- ITS FALSE NEIGHBOUR: 'it returns false'. Refute it at one input. -/
def fnFirstTypeWrong : ChangeSpec := { name := "fnFirstType", fn := fun _ => fun
  | [d] => { results := [.lit (.bool false)], args := [d] }
  | _ => none }
def FnFirstTypeWrongFalsely : Prop := fnFirstTypeRow.holds Try.pinned (OpenSpec.ofChange fnFirstTypeWrong)

/-- 'laws.FnIPv4': WHATEVER THE INPUT: true; the input reads as it did. -/
def fnIPv4Spec : ChangeSpec := { name := "fnIPv4", fn := fun _ => fun
  | [d1, d2, d3, d4, d5] => { results := [.lit (.bool true)], args := [d1, d2, d3, d4, d5] }
  | _ => none }
def fnIPv4Row : OpenClaim := { program := "ytjmcndbkmknemaa", sum := "c4b1af3ead92c3a5cee79f30edb5ee7fccee47f9aa1ad3d6cb5188ad752e070b", func := "pub-bridlepath/laws.FnIPv4", spec := "fnIPv4", recurses := true, apart := false }
def FnIPv4Said : Prop := fnIPv4Row.holds Try.pinned (OpenSpec.ofChange fnIPv4Spec)

/-- ITS FALSE NEIGHBOUR: 'it returns false'. Refute it at one input. -/
def fnIPv4Wrong : ChangeSpec := { name := "fnIPv4", fn := fun _ => fun
  | [d1, d2, d3, d4, d5] => { results := [.lit (.bool false)], args := [d1, d2, d3, d4, d5] }
  | _ => none }
def FnIPv4WrongFalsely : Prop := fnIPv4Row.holds Try.pinned (OpenSpec.ofChange fnIPv4Wrong)

/-- 'laws.FnEscapedSays': WHATEVER THE INPUT: true; the input reads as it did. -/
def fnEscapedSaysSpec : ChangeSpec := { name := "fnEscapedSays", fn := fun _ => fun
  | [d] => { results := [.lit (.bool true)], args := [d] }
  | _ => none }
def fnEscapedSaysRow : OpenClaim := { program := "ytjmcndbkmknemaa", sum := "c4b1af3ead92c3a5cee79f30edb5ee7fccee47f9aa1ad3d6cb5188ad752e070b", func := "pub-bridlepath/laws.FnEscapedSays", spec := "fnEscapedSays", apart := false }
def FnEscapedSaysSaid : Prop := fnEscapedSaysRow.holds Try.pinned (OpenSpec.ofChange fnEscapedSaysSpec)

/-- ITS FALSE NEIGHBOUR: 'it returns false'. Refute it at one input. -/
def fnEscapedSaysWrong : ChangeSpec := { name := "fnEscapedSays", fn := fun _ => fun
  | [d] => { results := [.lit (.bool false)], args := [d] }
  | _ => none }
def FnEscapedSaysWrongFalsely : Prop := fnEscapedSaysRow.holds Try.pinned (OpenSpec.ofChange fnEscapedSaysWrong)

/-- 'laws.FnContentPlain': WHATEVER THE INPUT: true; the input reads as it did. -/
def fnContentPlainSpec : ChangeSpec := { name := "fnContentPlain", fn := fun _ => fun
  | [d] => { results := [.lit (.bool true)], args := [d] }
  | _ => none }
def fnContentPlainRow : OpenClaim := { program := "ytjmcndbkmknemaa", sum := "c4b1af3ead92c3a5cee79f30edb5ee7fccee47f9aa1ad3d6cb5188ad752e070b", func := "pub-bridlepath/laws.FnContentPlain", spec := "fnContentPlain", apart := false }
def FnContentPlainSaid : Prop := fnContentPlainRow.holds Try.pinned (OpenSpec.ofChange fnContentPlainSpec)

/-- ITS FALSE NEIGHBOUR: 'it returns false'. Refute it at one input. -/
def fnContentPlainWrong : ChangeSpec := { name := "fnContentPlain", fn := fun _ => fun
  | [d] => { results := [.lit (.bool false)], args := [d] }
  | _ => none }
def FnContentPlainWrongFalsely : Prop := fnContentPlainRow.holds Try.pinned (OpenSpec.ofChange fnContentPlainWrong)

/-- 'laws.FnTypeSays': WHATEVER THE INPUT: true; the input reads as it did. -/
def fnTypeSaysSpec : ChangeSpec := { name := "fnTypeSays", fn := fun _ => fun
  | [d1, d2] => { results := [.lit (.bool true)], args := [d1, d2] }
  | _ => none }
def fnTypeSaysRow : OpenClaim := { program := "ytjmcndbkmknemaa", sum := "c4b1af3ead92c3a5cee79f30edb5ee7fccee47f9aa1ad3d6cb5188ad752e070b", func := "pub-bridlepath/laws.FnTypeSays", spec := "fnTypeSays", unfollowed := true, recurses := true, apart := false }
def FnTypeSaysSaid : Prop := fnTypeSaysRow.holds Try.pinned (OpenSpec.ofChange fnTypeSaysSpec)

/-- ITS FALSE NEIGHBOUR: 'it returns false'. Refute it at one input. -/
def fnTypeSaysWrong : ChangeSpec := { name := "fnTypeSays", fn := fun _ => fun
  | [d1, d2] => { results := [.lit (.bool false)], args := [d1, d2] }
  | _ => none }
def FnTypeSaysWrongFalsely : Prop := fnTypeSaysRow.holds Try.pinned (OpenSpec.ofChange fnTypeSaysWrong)

/-- 'laws.FnTypes': WHATEVER THE INPUT: true; the input reads as it did. -/
def fnTypesSpec : ChangeSpec := { name := "fnTypes", fn := fun _ => fun
  | [d1, d2] => { results := [.lit (.bool true)], args := [d1, d2] }
  | _ => none }
def fnTypesRow : OpenClaim := { program := "ytjmcndbkmknemaa", sum := "c4b1af3ead92c3a5cee79f30edb5ee7fccee47f9aa1ad3d6cb5188ad752e070b", func := "pub-bridlepath/laws.FnTypes", spec := "fnTypes", unfollowed := true, recurses := true, apart := false }
def FnTypesSaid : Prop := fnTypesRow.holds Try.pinned (OpenSpec.ofChange fnTypesSpec)

/-- ITS FALSE NEIGHBOUR: 'it returns false'. Refute it at one input. -/
def fnTypesWrong : ChangeSpec := { name := "fnTypes", fn := fun _ => fun
  | [d1, d2] => { results := [.lit (.bool false)], args := [d1, d2] }
  | _ => none }
def FnTypesWrongFalsely : Prop := fnTypesRow.holds Try.pinned (OpenSpec.ofChange fnTypesWrong)

/- THE SECOND FORM. 'bulk': how many values and letters a reading holds, each counted each time it is reached (what is shared counts as often as it is met; a slice's spare places count too). A statement '..UptoSaid' is the law's where the arguments, and the package variables that the reading takes, are together of bulk at most 1048576: NARROWER than '..Said'. Prove '..Said' where nothing that the law and all that it calls make is longer than what came in: it says more and counts as full. Else prove '..UptoSaid'. A law counts once. -/
mutual
def uptoBulk {H : Type} : DataW H → Nat
  | .lit (.string bytes) => bytes.length + 1
  | .lit _ => 1
  | .nil => 1
  | .ptr d => uptoBulk d + 1
  | .slice elems spare => uptoBulkAll elems + uptoBulkAll spare + 1
  | .agg parts => uptoBulkAll parts + 1
  | .iface _ d => uptoBulk d + 1
  | .map entries => uptoBulkEntries entries + 1
  | .held _ => 1
def uptoBulkAll {H : Type} : List (DataW H) → Nat
  | [] => 0
  | d :: r => uptoBulk d + uptoBulkAll r
def uptoBulkEntries {H : Type} : List (Lit × DataW H) → Nat
  | [] => 0
  | x :: r => uptoBulkEntry x + uptoBulkEntries r
def uptoBulkEntry {H : Type} : Lit × DataW H → Nat
  | (.string bytes, d) => bytes.length + uptoBulk d + 1
  | (_, d) => uptoBulk d + 1
 end
def uptoSmall : (H : Type) → List (DataW H) → Bool := fun _ ds => decide (uptoBulkAll ds ≤ 1048576)
def OpenSpec.upto (s : _root_.Go.ChangeSpec) : _root_.Go.OpenSpec := { _root_.Go.OpenSpec.ofChange s with cond := some uptoSmall }

/-- 'laws.FnParamOf', WHERE WHAT IT READS IS OF BULK AT MOST 1048576: true; the input reads as it did. -/
def fnParamOfUptoRow : OpenClaim := { program := "ytjmcndbkmknemaa", sum := "c4b1af3ead92c3a5cee79f30edb5ee7fccee47f9aa1ad3d6cb5188ad752e070b", func := "pub-bridlepath/laws.FnParamOf", spec := "fnParamOf", apart := false, narrowed := true }
def FnParamOfUptoSaid : Prop := fnParamOfUptoRow.holds Try.pinned (OpenSpec.upto fnParamOfSpec)

/-- 'laws.FnParamSays', WHERE WHAT IT READS IS OF BULK AT MOST 1048576: true; the input reads as it did. -/
def fnParamSaysUptoRow : OpenClaim := { program := "ytjmcndbkmknemaa", sum := "c4b1af3ead92c3a5cee79f30edb5ee7fccee47f9aa1ad3d6cb5188ad752e070b", func := "pub-bridlepath/laws.FnParamSays", spec := "fnParamSays", apart := false, narrowed := true }
def FnParamSaysUptoSaid : Prop := fnParamSaysUptoRow.holds Try.pinned (OpenSpec.upto fnParamSaysSpec)

/-- 'laws.FnSlashed', WHERE WHAT IT READS IS OF BULK AT MOST 1048576: true; the input reads as it did. -/
def fnSlashedUptoRow : OpenClaim := { program := "ytjmcndbkmknemaa", sum := "c4b1af3ead92c3a5cee79f30edb5ee7fccee47f9aa1ad3d6cb5188ad752e070b", func := "pub-bridlepath/laws.FnSlashed", spec := "fnSlashed", apart := false, narrowed := true }
def FnSlashedUptoSaid : Prop := fnSlashedUptoRow.holds Try.pinned (OpenSpec.upto fnSlashedSpec)

/-- 'laws.FnParamTrimmed', WHERE WHAT IT READS IS OF BULK AT MOST 1048576: true; the input reads as it did. -/
def fnParamTrimmedUptoRow : OpenClaim := { program := "ytjmcndbkmknemaa", sum := "c4b1af3ead92c3a5cee79f30edb5ee7fccee47f9aa1ad3d6cb5188ad752e070b", func := "pub-bridlepath/laws.FnParamTrimmed", spec := "fnParamTrimmed", apart := false, narrowed := true }
def FnParamTrimmedUptoSaid : Prop := fnParamTrimmedUptoRow.holds Try.pinned (OpenSpec.upto fnParamTrimmedSpec)

/-- 'laws.FnUnescapedSigns', WHERE WHAT IT READS IS OF BULK AT MOST 1048576: true; the input reads as it did. -/
def fnUnescapedSignsUptoRow : OpenClaim := { program := "ytjmcndbkmknemaa", sum := "c4b1af3ead92c3a5cee79f30edb5ee7fccee47f9aa1ad3d6cb5188ad752e070b", func := "pub-bridlepath/laws.FnUnescapedSigns", spec := "fnUnescapedSigns", inPlace := ["internal/bytealg.IndexByteString"], apart := false, narrowed := true }
def FnUnescapedSignsUptoSaid : Prop := fnUnescapedSignsUptoRow.holds Try.pinned (OpenSpec.upto fnUnescapedSignsSpec)

/-- 'laws.FnHexBack', WHERE WHAT IT READS IS OF BULK AT MOST 1048576: true; the input reads as it did. -/
def fnHexBackUptoRow : OpenClaim := { program := "ytjmcndbkmknemaa", sum := "c4b1af3ead92c3a5cee79f30edb5ee7fccee47f9aa1ad3d6cb5188ad752e070b", func := "pub-bridlepath/laws.FnHexBack", spec := "fnHexBack", apart := false, narrowed := true }
def FnHexBackUptoSaid : Prop := fnHexBackUptoRow.holds Try.pinned (OpenSpec.upto fnHexBackSpec)

/-- 'laws.FnFirstType', WHERE WHAT IT READS IS OF BULK AT MOST 1048576: true; the input reads as it did. -/
def fnFirstTypeUptoRow : OpenClaim := { program := "ytjmcndbkmknemaa", sum := "c4b1af3ead92c3a5cee79f30edb5ee7fccee47f9aa1ad3d6cb5188ad752e070b", func := "pub-bridlepath/laws.FnFirstType", spec := "fnFirstType", unfollowed := true, recurses := true, apart := false, narrowed := true }
def FnFirstTypeUptoSaid : Prop := fnFirstTypeUptoRow.holds Try.pinned (OpenSpec.upto fnFirstTypeSpec)

/-- 'laws.FnIPv4', WHERE WHAT IT READS IS OF BULK AT MOST 1048576: true; the input reads as it did. -/
def fnIPv4UptoRow : OpenClaim := { program := "ytjmcndbkmknemaa", sum := "c4b1af3ead92c3a5cee79f30edb5ee7fccee47f9aa1ad3d6cb5188ad752e070b", func := "pub-bridlepath/laws.FnIPv4", spec := "fnIPv4", recurses := true, apart := false, narrowed := true }
def FnIPv4UptoSaid : Prop := fnIPv4UptoRow.holds Try.pinned (OpenSpec.upto fnIPv4Spec)

/-- 'laws.FnEscapedSays', WHERE WHAT IT READS IS OF BULK AT MOST 1048576: true; the input reads as it did. -/
def fnEscapedSaysUptoRow : OpenClaim := { program := "ytjmcndbkmknemaa", sum := "c4b1af3ead92c3a5cee79f30edb5ee7fccee47f9aa1ad3d6cb5188ad752e070b", func := "pub-bridlepath/laws.FnEscapedSays", spec := "fnEscapedSays", apart := false, narrowed := true }
def FnEscapedSaysUptoSaid : Prop := fnEscapedSaysUptoRow.holds Try.pinned (OpenSpec.upto fnEscapedSaysSpec)

/-- 'laws.FnContentPlain', WHERE WHAT IT READS IS OF BULK AT MOST 1048576: true; the input reads as it did. -/
def fnContentPlainUptoRow : OpenClaim := { program := "ytjmcndbkmknemaa", sum := "c4b1af3ead92c3a5cee79f30edb5ee7fccee47f9aa1ad3d6cb5188ad752e070b", func := "pub-bridlepath/laws.FnContentPlain", spec := "fnContentPlain", apart := false, narrowed := true }
def FnContentPlainUptoSaid : Prop := fnContentPlainUptoRow.holds Try.pinned (OpenSpec.upto fnContentPlainSpec)

/-- 'laws.FnTypeSays', WHERE WHAT IT READS IS OF BULK AT MOST 1048576: true; the input reads as it did. -/
def fnTypeSaysUptoRow : OpenClaim := { program := "ytjmcndbkmknemaa", sum := "c4b1af3ead92c3a5cee79f30edb5ee7fccee47f9aa1ad3d6cb5188ad752e070b", func := "pub-bridlepath/laws.FnTypeSays", spec := "fnTypeSays", unfollowed := true, recurses := true, apart := false, narrowed := true }
def FnTypeSaysUptoSaid : Prop := fnTypeSaysUptoRow.holds Try.pinned (OpenSpec.upto fnTypeSaysSpec)

/-- 'laws.FnTypes', WHERE WHAT IT READS IS OF BULK AT MOST 1048576: true; the input reads as it did. -/
def fnTypesUptoRow : OpenClaim := { program := "ytjmcndbkmknemaa", sum := "c4b1af3ead92c3a5cee79f30edb5ee7fccee47f9aa1ad3d6cb5188ad752e070b", func := "pub-bridlepath/laws.FnTypes", spec := "fnTypes", unfollowed := true, recurses := true, apart := false, narrowed := true }
def FnTypesUptoSaid : Prop := fnTypesUptoRow.holds Try.pinned (OpenSpec.upto fnTypesSpec)

end Rows
end Go.Proofs.Ytjmcndbkmknemaa
