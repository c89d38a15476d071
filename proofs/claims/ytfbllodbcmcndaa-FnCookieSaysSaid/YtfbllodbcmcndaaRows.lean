/-
  No cell of these rows narrows 'for every input' (looked for: loops, veiled, ifaces, maps, wideKeys, modest, calm, conditions, laid).
  DERIVED. THE GIVEN ROWS OF THIS SEAT. 5 by the template 'for every input the law returns true; each argument reads behind the call as it read before'; 0 by the template 'total and deterministic' (their statements: YtfbllodbcmcndaaTotals.lean).
  GIVEN WITH THE SEED: the statements are not yours to turn. If you find one false, say at which input.
  Laid BY PROGRAM, IN A SANDBOX (cutbox-rows.mjs): the forced cells as the released guide's own fill.sh prints them over the translation b9db8783cdf9305f… (all of the seat's roots in one cut). By AI agents, Wed Nov 11 2026. No macro, syntax, notation, axiom, sorry.
-/
import Derived.Test.YtfbllodbcmcndaaChecked
import GoSem.Claim
import GoSem.ClaimJoined
import GoSem.ClaimMapViews
import Derived.JoinedTies
import Derived.KernelRfl
namespace Go.Proofs.Ytfbllodbcmcndaa
/- THE CELL 'sum', in the pinned program and in every row, IS THE sha256 OF THE DUMP (.gsa) THAT YtfbllodbcmcndaaProg.lean LOADS. Nothing in Lean hashes anything: it is a label: what it is worth is what the hold of that sum in a sandbox is worth. -/
noncomputable def Try.pinned : Pinned := { name := "ytfbllodbcmcndaa", sum := "b9db8783cdf9305ff36b753e5da03036b8d4c4bf5233b8e7e384d0df16ea6bb7", checked := Try.checked }
namespace Rows
def none {H : Type} : Left H := { results := [], args := [] }

/-- 'laws.FnArgsParsed': WHATEVER THE INPUT: true; the input reads as it did. -/
def fnArgsParsedSpec : ChangeSpec := { name := "fnArgsParsed", fn := fun _ => fun
  | [d1, d2] => { results := [.lit (.bool true)], args := [d1, d2] }
  | _ => none }
def fnArgsParsedRow : OpenClaim := { program := "ytfbllodbcmcndaa", sum := "b9db8783cdf9305ff36b753e5da03036b8d4c4bf5233b8e7e384d0df16ea6bb7", func := "pub-bridlepath/laws.FnArgsParsed", spec := "fnArgsParsed", inPlace := ["internal/bytealg.IndexByte"], unfollowed := true, recurses := true, apart := false }
def FnArgsParsedSaid : Prop := fnArgsParsedRow.holds Try.pinned (OpenSpec.ofChange fnArgsParsedSpec)

/-- ITS FALSE NEIGHBOUR: 'it returns false'. Refute it at one input. -/
def fnArgsParsedWrong : ChangeSpec := { name := "fnArgsParsed", fn := fun _ => fun
  | [d1, d2] => { results := [.lit (.bool false)], args := [d1, d2] }
  | _ => none }
def FnArgsParsedWrongFalsely : Prop := fnArgsParsedRow.holds Try.pinned (OpenSpec.ofChange fnArgsParsedWrong)

/-- 'laws.FnArgsScriptSays': WHATEVER THE INPUT: true; the input reads as it did. -/
def fnArgsScriptSaysSpec : ChangeSpec := { name := "fnArgsScriptSays", fn := fun _ => fun
  | [d1, d2] => { results := [.lit (.bool true)], args := [d1, d2] }
  | _ => none }
def fnArgsScriptSaysRow : OpenClaim := { program := "ytfbllodbcmcndaa", sum := "b9db8783cdf9305ff36b753e5da03036b8d4c4bf5233b8e7e384d0df16ea6bb7", func := "pub-bridlepath/laws.FnArgsScriptSays", spec := "fnArgsScriptSays", inPlace := ["internal/bytealg.IndexByte"], unfollowed := true, recurses := true, apart := false }
def FnArgsScriptSaysSaid : Prop := fnArgsScriptSaysRow.holds Try.pinned (OpenSpec.ofChange fnArgsScriptSaysSpec)

/-- ITS FALSE NEIGHBOUR: 'it returns false'. Refute it at one input. -/
def fnArgsScriptSaysWrong : ChangeSpec := { name := "fnArgsScriptSays", fn := fun _ => fun
  | [d1, d2] => { results := [.lit (.bool false)], args := [d1, d2] }
  | _ => none }
def FnArgsScriptSaysWrongFalsely : Prop := fnArgsScriptSaysRow.holds Try.pinned (OpenSpec.ofChange fnArgsScriptSaysWrong)

/-- 'laws.FnArgsScripted': WHATEVER THE INPUT: true; the input reads as it did. -/
def fnArgsScriptedSpec : ChangeSpec := { name := "fnArgsScripted", fn := fun _ => fun
  | [d] => { results := [.lit (.bool true)], args := [d] }
  | _ => none }
def fnArgsScriptedRow : OpenClaim := { program := "ytfbllodbcmcndaa", sum := "b9db8783cdf9305ff36b753e5da03036b8d4c4bf5233b8e7e384d0df16ea6bb7", func := "pub-bridlepath/laws.FnArgsScripted", spec := "fnArgsScripted", inPlace := ["internal/bytealg.IndexByte"], unfollowed := true, recurses := true, apart := false }
def FnArgsScriptedSaid : Prop := fnArgsScriptedRow.holds Try.pinned (OpenSpec.ofChange fnArgsScriptedSpec)

/-- ITS FALSE NEIGHBOUR: 'it returns false'. Refute it at one input. -/
def fnArgsScriptedWrong : ChangeSpec := { name := "fnArgsScripted", fn := fun _ => fun
  | [d] => { results := [.lit (.bool false)], args := [d] }
  | _ => none }
def FnArgsScriptedWrongFalsely : Prop := fnArgsScriptedRow.holds Try.pinned (OpenSpec.ofChange fnArgsScriptedWrong)

/-- 'laws.FnCookieHead': WHATEVER THE INPUT: true; the input reads as it did. -/
def fnCookieHeadSpec : ChangeSpec := { name := "fnCookieHead", fn := fun _ => fun
  | [d] => { results := [.lit (.bool true)], args := [d] }
  | _ => none }
def fnCookieHeadRow : OpenClaim := { program := "ytfbllodbcmcndaa", sum := "b9db8783cdf9305ff36b753e5da03036b8d4c4bf5233b8e7e384d0df16ea6bb7", func := "pub-bridlepath/laws.FnCookieHead", spec := "fnCookieHead", inPlace := ["internal/bytealg.IndexByte"], apart := false }
def FnCookieHeadSaid : Prop := fnCookieHeadRow.holds Try.pinned (OpenSpec.ofChange fnCookieHeadSpec)

/-- ITS FALSE NEIGHBOUR: 'it returns false'. Refute it at one input. -/
def fnCookieHeadWrong : ChangeSpec := { name := "fnCookieHead", fn := fun _ => fun
  | [d] => { results := [.lit (.bool false)], args := [d] }
  | _ => none }
def FnCookieHeadWrongFalsely : Prop := fnCookieHeadRow.holds Try.pinned (OpenSpec.ofChange fnCookieHeadWrong)

/-- 'laws.FnCookieSays': WHATEVER THE INPUT: true; the input reads as it did. -/
def fnCookieSaysSpec : ChangeSpec := { name := "fnCookieSays", fn := fun _ => fun
  | [d] => { results := [.lit (.bool true)], args := [d] }
  | _ => none }
def fnCookieSaysRow : OpenClaim := { program := "ytfbllodbcmcndaa", sum := "b9db8783cdf9305ff36b753e5da03036b8d4c4bf5233b8e7e384d0df16ea6bb7", func := "pub-bridlepath/laws.FnCookieSays", spec := "fnCookieSays", inPlace := ["internal/bytealg.IndexByte"], recurses := true, apart := false }
def FnCookieSaysSaid : Prop := fnCookieSaysRow.holds Try.pinned (OpenSpec.ofChange fnCookieSaysSpec)

/-- ITS FALSE NEIGHBOUR: 'it returns false'. Refute it at one input. -/
def fnCookieSaysWrong : ChangeSpec := { name := "fnCookieSays", fn := fun _ => fun
  | [d] => { results := [.lit (.bool false)], args := [d] }
  | _ => none }
def FnCookieSaysWrongFalsely : Prop := fnCookieSaysRow.holds Try.pinned (OpenSpec.ofChange fnCookieSaysWrong)

/- THE SECOND FORM. 'bulk': how many values and letters a reading holds, each counted each time it is reached (what is shared counts as often as it is met; a slice's spare places count too). A statement '..UptoSaid' is the law's where the arguments, and the package variables that the reading takes, are together of bulk at most 1048576: NARROWER than '..Said'. Prove '..Said' where nothing that the law and all that it calls make is longer than what came in: it says more and counts as full. Else prove '..UptoSaid'. A law counts once. -/
mutual
def uptoBulk {H : Type} : DataW H → Nat
  | .lit (.string bytes) => bytes.length + 1
  | .lit _ => 1
  | .nil => 1
  | .ptr d => uptoBulk d + 1
  | .slice elems spare => uptoBulkAll elems + uptoBulkAll spare + 1
  | .agg parts => uptoBulkAll parts + 1
  | .iface _ d => uptoBulk d + 1
  | .map entries => uptoBulkEntries entries + 1
  | .held _ => 1
def uptoBulkAll {H : Type} : List (DataW H) → Nat
  | [] => 0
  | d :: r => uptoBulk d + uptoBulkAll r
def uptoBulkEntries {H : Type} : List (Lit × DataW H) → Nat
  | [] => 0
  | x :: r => uptoBulkEntry x + uptoBulkEntries r
def uptoBulkEntry {H : Type} : Lit × DataW H → Nat
  | (.string bytes, d) => bytes.length + uptoBulk d + 1
  | (_, d) => uptoBulk d + 1
 end
def uptoSmall : (H : Type) → List (DataW H) → Bool := fun _ ds => decide (uptoBulkAll ds ≤ 1048576)
def OpenSpec.upto (s : _root_.Go.ChangeSpec) : _root_.Go.OpenSpec := { _root_.Go.OpenSpec.ofChange s with cond := some uptoSmall }

/-- 'laws.FnArgsParsed', WHERE WHAT IT READS IS OF BULK AT MOST 1048576: true; the input reads as it did. -/
def fnArgsParsedUptoRow : OpenClaim := { program := "ytfbllodbcmcndaa", sum := "b9db8783cdf9305ff36b753e5da03036b8d4c4bf5233b8e7e384d0df16ea6bb7", func := "pub-bridlepath/laws.FnArgsParsed", spec := "fnArgsParsed", inPlace := ["internal/bytealg.IndexByte"], unfollowed := true, recurses := true, apart := false, narrowed := true }
def FnArgsParsedUptoSaid : Prop := fnArgsParsedUptoRow.holds Try.pinned (OpenSpec.upto fnArgsParsedSpec)

/-- 'laws.FnArgsScriptSays', WHERE WHAT IT READS IS OF BULK AT MOST 1048576: true; the input reads as it did. -/
def fnArgsScriptSaysUptoRow : OpenClaim := { program := "ytfbllodbcmcndaa", sum := "b9db8783cdf9305ff36b753e5da03036b8d4c4bf5233b8e7e384d0df16ea6bb7", func := "pub-bridlepath/laws.FnArgsScriptSays", spec := "fnArgsScriptSays", inPlace := ["internal/bytealg.IndexByte"], unfollowed := true, recurses := true, apart := false, narrowed := true }
def FnArgsScriptSaysUptoSaid : Prop := fnArgsScriptSaysUptoRow.holds Try.pinned (OpenSpec.upto fnArgsScriptSaysSpec)

/-- 'laws.FnArgsScripted', WHERE WHAT IT READS IS OF BULK AT MOST 1048576: true; the input reads as it did. -/
def fnArgsScriptedUptoRow : OpenClaim := { program := "ytfbllodbcmcndaa", sum := "b9db8783cdf9305ff36b753e5da03036b8d4c4bf5233b8e7e384d0df16ea6bb7", func := "pub-bridlepath/laws.FnArgsScripted", spec := "fnArgsScripted", inPlace := ["internal/bytealg.IndexByte"], unfollowed := true, recurses := true, apart := false, narrowed := true }
def FnArgsScriptedUptoSaid : Prop := fnArgsScriptedUptoRow.holds Try.pinned (OpenSpec.upto fnArgsScriptedSpec)

/-- 'laws.FnCookieHead', WHERE WHAT IT READS IS OF BULK AT MOST 1048576: true; the input reads as it did. -/
def fnCookieHeadUptoRow : OpenClaim := { program := "ytfbllodbcmcndaa", sum := "b9db8783cdf9305ff36b753e5da03036b8d4c4bf5233b8e7e384d0df16ea6bb7", func := "pub-bridlepath/laws.FnCookieHead", spec := "fnCookieHead", inPlace := ["internal/bytealg.IndexByte"], apart := false, narrowed := true }
def FnCookieHeadUptoSaid : Prop := fnCookieHeadUptoRow.holds Try.pinned (OpenSpec.upto fnCookieHeadSpec)

/-- 'laws.FnCookieSays', WHERE WHAT IT READS IS OF BULK AT MOST 1048576: true; the input reads as it did. -/
def fnCookieSaysUptoRow : OpenClaim := { program := "ytfbllodbcmcndaa", sum := "b9db8783cdf9305ff36b753e5da03036b8d4c4bf5233b8e7e384d0df16ea6bb7", func := "pub-bridlepath/laws.FnCookieSays", spec := "fnCookieSays", inPlace := ["internal/bytealg.IndexByte"], recurses := true, apart := false, narrowed := true }
def FnCookieSaysUptoSaid : Prop := fnCookieSaysUptoRow.holds Try.pinned (OpenSpec.upto fnCookieSaysSpec)

end Rows
end Go.Proofs.Ytfbllodbcmcndaa
