/-
  NARROWER THAN 'FOR EVERY INPUT', by the rows' own cells (each row's printed sentence says how): FnUintBack: laid · FnUintSays: laid.
  DERIVED. THE GIVEN ROWS OF THIS SEAT. 2 by the template 'for every input the law returns true; each argument reads behind the call as it read before'; 0 by the template 'total and deterministic' (their statements: YtipmmjbjgbfgjaaDoorTotals.lean).
  GIVEN WITH THE SEED: the statements are not yours to turn. If you find one false, say at which input.
  Laid BY PROGRAM, IN A SANDBOX (cutbox-rows.mjs): the forced cells as the released guide's own fill.sh prints them over the translation b84e77d9817b0955… (all of the seat's roots in one cut). By AI agents, Wed Nov 11 2026. No macro, syntax, notation, axiom, sorry.
-/
import Derived.Test.YtipmmjbjgbfgjaaDoorChecked
import GoSem.Claim
import GoSem.ClaimJoined
import GoSem.ClaimMapViews
import Derived.JoinedTies
import Derived.KernelRfl
namespace Go.Proofs.YtipmmjbjgbfgjaaDoor
/- THE CELL 'sum', in the pinned program and in every row, IS THE sha256 OF THE DUMP (.gsa) THAT YtipmmjbjgbfgjaaDoorProg.lean LOADS. Nothing in Lean hashes anything: it is a label: what it is worth is what the hold of that sum in a sandbox is worth. -/
noncomputable def Tryd.pinned : Pinned := { name := "ytipmmjbjgbfgjaadoor", sum := "b84e77d9817b0955dffc479c3684b4218f3a983a832857741b6d94a45250918c", checked := Tryd.checked }
namespace Rows
def none {H : Type} : Left H := { results := [], args := [] }

/- WHAT THE LISTED PACKAGE-LEVEL VARIABLES READ AS WHEN THE CALL BEGINS. Each datum BY PROGRAM (the guide's laid-datum.mjs) off the statement by which the dump's own 'gosem.cut.vars' lays the variable. In a bare row this is a premise. The card (YtipmmjbjgbfgjaaDoorCards.lean) ties it to the program's text. -/
def laid_pub_bridlepath_pub_hertzconv_errEmptyInt {H : Type} : DataW H := .iface "*errors.errorString" (.ptr (.agg [.lit (.string [101, 109, 112, 116, 121, 32, 105, 110, 116, 101, 103, 101, 114])]))
def laid_pub_bridlepath_pub_hertzconv_errUnexpectedFirstChar {H : Type} : DataW H := .iface "*errors.errorString" (.ptr (.agg [.lit (.string [117, 110, 101, 120, 112, 101, 99, 116, 101, 100, 32, 102, 105, 114, 115, 116, 32, 99, 104, 97, 114, 32, 102, 111, 117, 110, 100, 46, 32, 69, 120, 112, 101, 99, 116, 105, 110, 103, 32, 48, 45, 57])]))
def laid_pub_bridlepath_pub_hertzconv_errUnexpectedTrailingChar {H : Type} : DataW H := .iface "*errors.errorString" (.ptr (.agg [.lit (.string [117, 110, 101, 120, 112, 101, 99, 116, 101, 100, 32, 116, 114, 97, 105, 108, 105, 110, 103, 32, 99, 104, 97, 114, 32, 102, 111, 117, 110, 100, 46, 32, 69, 120, 112, 101, 99, 116, 105, 110, 103, 32, 48, 45, 57])]))
def laid_pub_bridlepath_pub_hertzconv_errTooLongInt {H : Type} : DataW H := .iface "*errors.errorString" (.ptr (.agg [.lit (.string [116, 111, 111, 32, 108, 111, 110, 103, 32, 105, 110, 116])]))

/-- 'laws.FnUintBack': WHATEVER THE INPUT: true; the input reads as it did. -/
def fnUintBackSpec : ChangeSpec := { name := "fnUintBack", fn := fun _ => fun
  | [d1, d2] => { results := [.lit (.bool true)], args := [d1, d2] }
  | _ => none }
def fnUintBackRow : OpenClaim := { program := "ytipmmjbjgbfgjaadoor", sum := "b84e77d9817b0955dffc479c3684b4218f3a983a832857741b6d94a45250918c", func := "pub-bridlepath/laws.FnUintBack", spec := "fnUintBack", unfollowed := true, recurses := true, named := ["pub-bridlepath/pub/hertzconv.errUnexpectedTrailingChar", "pub-bridlepath/pub/hertzconv.errEmptyInt", "pub-bridlepath/pub/hertzconv.errUnexpectedFirstChar", "pub-bridlepath/pub/hertzconv.errTooLongInt"], apart := false, laid := [("pub-bridlepath/pub/hertzconv.errEmptyInt", laid_pub_bridlepath_pub_hertzconv_errEmptyInt), ("pub-bridlepath/pub/hertzconv.errUnexpectedFirstChar", laid_pub_bridlepath_pub_hertzconv_errUnexpectedFirstChar), ("pub-bridlepath/pub/hertzconv.errUnexpectedTrailingChar", laid_pub_bridlepath_pub_hertzconv_errUnexpectedTrailingChar), ("pub-bridlepath/pub/hertzconv.errTooLongInt", laid_pub_bridlepath_pub_hertzconv_errTooLongInt)] }
def FnUintBackSaid : Prop := fnUintBackRow.holds Tryd.pinned (OpenSpec.ofChange fnUintBackSpec)

/-- ITS FALSE NEIGHBOUR: 'it returns false'. Refute it at one input. -/
def fnUintBackWrong : ChangeSpec := { name := "fnUintBack", fn := fun _ => fun
  | [d1, d2] => { results := [.lit (.bool false)], args := [d1, d2] }
  | _ => none }
def FnUintBackWrongFalsely : Prop := fnUintBackRow.holds Tryd.pinned (OpenSpec.ofChange fnUintBackWrong)

/-- 'laws.FnUintSays': WHATEVER THE INPUT: true; the input reads as it did. -/
def fnUintSaysSpec : ChangeSpec := { name := "fnUintSays", fn := fun _ => fun
  | [d1, d2, d3] => { results := [.lit (.bool true)], args := [d1, d2, d3] }
  | _ => none }
def fnUintSaysRow : OpenClaim := { program := "ytipmmjbjgbfgjaadoor", sum := "b84e77d9817b0955dffc479c3684b4218f3a983a832857741b6d94a45250918c", func := "pub-bridlepath/laws.FnUintSays", spec := "fnUintSays", unfollowed := true, recurses := true, named := ["pub-bridlepath/pub/hertzconv.errUnexpectedTrailingChar", "pub-bridlepath/pub/hertzconv.errEmptyInt", "pub-bridlepath/pub/hertzconv.errUnexpectedFirstChar", "pub-bridlepath/pub/hertzconv.errTooLongInt"], apart := false, laid := [("pub-bridlepath/pub/hertzconv.errEmptyInt", laid_pub_bridlepath_pub_hertzconv_errEmptyInt), ("pub-bridlepath/pub/hertzconv.errUnexpectedFirstChar", laid_pub_bridlepath_pub_hertzconv_errUnexpectedFirstChar), ("pub-bridlepath/pub/hertzconv.errUnexpectedTrailingChar", laid_pub_bridlepath_pub_hertzconv_errUnexpectedTrailingChar), ("pub-bridlepath/pub/hertzconv.errTooLongInt", laid_pub_bridlepath_pub_hertzconv_errTooLongInt)] }
def FnUintSaysSaid : Prop := fnUintSaysRow.holds Tryd.pinned (OpenSpec.ofChange fnUintSaysSpec)

/-- ITS FALSE NEIGHBOUR: 'it returns false'. Refute it at one input. -/
def fnUintSaysWrong : ChangeSpec := { name := "fnUintSays", fn := fun _ => fun
  | [d1, d2, d3] => { results := [.lit (.bool false)], args := [d1, d2, d3] }
  | _ => none }
def FnUintSaysWrongFalsely : Prop := fnUintSaysRow.holds Tryd.pinned (OpenSpec.ofChange fnUintSaysWrong)

/- THE SECOND FORM. 'bulk': how many values and letters a reading holds, each counted each time it is reached (what is shared counts as often as it is met; a slice's spare places count too). A statement '..UptoSaid' is the law's where the arguments, and the package variables that the reading takes, are together of bulk at most 1048576: NARROWER than '..Said'. Prove '..Said' where nothing that the law and all that it calls make is longer than what came in: it says more and counts as full. Else prove '..UptoSaid'. A law counts once. -/
mutual
def uptoBulk {H : Type} : DataW H → Nat
  | .lit (.string bytes) => bytes.length + 1
  | .lit _ => 1
  | .nil => 1
  | .ptr d => uptoBulk d + 1
  | .slice elems spare => uptoBulkAll elems + uptoBulkAll spare + 1
  | .agg parts => uptoBulkAll parts + 1
  | .iface _ d => uptoBulk d + 1
  | .map entries => uptoBulkEntries entries + 1
  | .held _ => 1
def uptoBulkAll {H : Type} : List (DataW H) → Nat
  | [] => 0
  | d :: r => uptoBulk d + uptoBulkAll r
def uptoBulkEntries {H : Type} : List (Lit × DataW H) → Nat
  | [] => 0
  | x :: r => uptoBulkEntry x + uptoBulkEntries r
def uptoBulkEntry {H : Type} : Lit × DataW H → Nat
  | (.string bytes, d) => bytes.length + uptoBulk d + 1
  | (_, d) => uptoBulk d + 1
 end
def uptoSmall : (H : Type) → List (DataW H) → Bool := fun _ ds => decide (uptoBulkAll ds ≤ 1048576)
def OpenSpec.upto (s : _root_.Go.ChangeSpec) : _root_.Go.OpenSpec := { _root_.Go.OpenSpec.ofChange s with cond := some uptoSmall }

/-- 'laws.FnUintBack', WHERE WHAT IT READS IS OF BULK AT MOST 1048576: true; the input reads as it did. -/
def fnUintBackUptoRow : OpenClaim := { program := "ytipmmjbjgbfgjaadoor", sum := "b84e77d9817b0955dffc479c3684b4218f3a983a832857741b6d94a45250918c", func := "pub-bridlepath/laws.FnUintBack", spec := "fnUintBack", unfollowed := true, recurses := true, named := ["pub-bridlepath/pub/hertzconv.errUnexpectedTrailingChar", "pub-bridlepath/pub/hertzconv.errEmptyInt", "pub-bridlepath/pub/hertzconv.errUnexpectedFirstChar", "pub-bridlepath/pub/hertzconv.errTooLongInt"], apart := false, laid := [("pub-bridlepath/pub/hertzconv.errEmptyInt", laid_pub_bridlepath_pub_hertzconv_errEmptyInt), ("pub-bridlepath/pub/hertzconv.errUnexpectedFirstChar", laid_pub_bridlepath_pub_hertzconv_errUnexpectedFirstChar), ("pub-bridlepath/pub/hertzconv.errUnexpectedTrailingChar", laid_pub_bridlepath_pub_hertzconv_errUnexpectedTrailingChar), ("pub-bridlepath/pub/hertzconv.errTooLongInt", laid_pub_bridlepath_pub_hertzconv_errTooLongInt)], narrowed := true }
def FnUintBackUptoSaid : Prop := fnUintBackUptoRow.holds Tryd.pinned (OpenSpec.upto fnUintBackSpec)

/-- 'laws.FnUintSays', WHERE WHAT IT READS IS OF BULK AT MOST 1048576: true; the input reads as it did. -/
def fnUintSaysUptoRow : OpenClaim := { program := "ytipmmjbjgbfgjaadoor", sum := "b84e77d9817b0955dffc479c3684b4218f3a983a832857741b6d94a45250918c", func := "pub-bridlepath/laws.FnUintSays", spec := "fnUintSays", unfollowed := true, recurses := true, named := ["pub-bridlepath/pub/hertzconv.errUnexpectedTrailingChar", "pub-bridlepath/pub/hertzconv.errEmptyInt", "pub-bridlepath/pub/hertzconv.errUnexpectedFirstChar", "pub-bridlepath/pub/hertzconv.errTooLongInt"], apart := false, laid := [("pub-bridlepath/pub/hertzconv.errEmptyInt", laid_pub_bridlepath_pub_hertzconv_errEmptyInt), ("pub-bridlepath/pub/hertzconv.errUnexpectedFirstChar", laid_pub_bridlepath_pub_hertzconv_errUnexpectedFirstChar), ("pub-bridlepath/pub/hertzconv.errUnexpectedTrailingChar", laid_pub_bridlepath_pub_hertzconv_errUnexpectedTrailingChar), ("pub-bridlepath/pub/hertzconv.errTooLongInt", laid_pub_bridlepath_pub_hertzconv_errTooLongInt)], narrowed := true }
def FnUintSaysUptoSaid : Prop := fnUintSaysUptoRow.holds Tryd.pinned (OpenSpec.upto fnUintSaysSpec)

end Rows
end Go.Proofs.YtipmmjbjgbfgjaaDoor
