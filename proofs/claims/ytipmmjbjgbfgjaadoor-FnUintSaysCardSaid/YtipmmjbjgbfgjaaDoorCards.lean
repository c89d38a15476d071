/-
  DERIVED. GIVEN WITH THE SEED: THE CARDS: each row of YtipmmjbjgbfgjaaDoorRows.lean that lists a variable, with what it lists TIED to the program's text (the seventh form; the later family's looks); each row that meets fmt, with fmt's text TOLD by the authors' own Lean function (tested against real Go, not proved from fmt's source: count such statements apart). THE CARD IS WHAT COUNTS. Prove the row's statement (the work); the ties are given (YtipmmjbjgbfgjaaDoorTie.lean); close each card by the builder's one call (the guide's Derived/Test/ToyasCard.lean, 'card_holds'). Laid BY PROGRAM, IN A SANDBOX (cutbox-door.mjs). By AI agents, Wed Nov 11 2026. No macro, syntax, notation, axiom, sorry.
-/
import Derived.Test.YtipmmjbjgbfgjaaDoorRows
import GoSem.ClaimSeven
namespace Go.Proofs.YtipmmjbjgbfgjaaDoor
namespace Rows

/-- THE TIED CARD OF 'laws.FnUintBack'. -/
def fnUintBackCard : Claim7 := { stood := { row := fnUintBackRow, standIns := [], harness := (true, "85c7af18503741c7a4dc0f5ea483dec98b9d37dfc0cdfba46c3a34e5248cb4dc"), looks := false }, kinds := [], alts := [], laidByText := true, laidKinds := [.sentinel, .sentinel, .sentinel, .sentinel], laidTests := true, laidLooks := .later }
def FnUintBackCardSaid : Prop := Claim7.holds Tryd.pinned (.plain (OpenSpec.ofChange fnUintBackSpec)) fnUintBackCard

/-- THE TIED CARD OF 'laws.FnUintSays'. -/
def fnUintSaysCard : Claim7 := { stood := { row := fnUintSaysRow, standIns := [], harness := (true, "85c7af18503741c7a4dc0f5ea483dec98b9d37dfc0cdfba46c3a34e5248cb4dc"), looks := false }, kinds := [], alts := [], laidByText := true, laidKinds := [.sentinel, .sentinel, .sentinel, .sentinel], laidTests := true, laidLooks := .later }
def FnUintSaysCardSaid : Prop := Claim7.holds Tryd.pinned (.plain (OpenSpec.ofChange fnUintSaysSpec)) fnUintSaysCard

/-- THE SECOND FORM's CARD OF 'laws.FnUintBack'. -/
def fnUintBackUptoCard : Claim7 := { stood := { row := fnUintBackUptoRow, standIns := [], harness := (true, "85c7af18503741c7a4dc0f5ea483dec98b9d37dfc0cdfba46c3a34e5248cb4dc"), looks := false }, kinds := [], alts := [], laidByText := true, laidKinds := [.sentinel, .sentinel, .sentinel, .sentinel], laidTests := true, laidLooks := .later }
def FnUintBackUptoCardSaid : Prop := Claim7.holds Tryd.pinned (.plain (OpenSpec.upto fnUintBackSpec)) fnUintBackUptoCard

/-- THE SECOND FORM's CARD OF 'laws.FnUintSays'. -/
def fnUintSaysUptoCard : Claim7 := { stood := { row := fnUintSaysUptoRow, standIns := [], harness := (true, "85c7af18503741c7a4dc0f5ea483dec98b9d37dfc0cdfba46c3a34e5248cb4dc"), looks := false }, kinds := [], alts := [], laidByText := true, laidKinds := [.sentinel, .sentinel, .sentinel, .sentinel], laidTests := true, laidLooks := .later }
def FnUintSaysUptoCardSaid : Prop := Claim7.holds Tryd.pinned (.plain (OpenSpec.upto fnUintSaysSpec)) fnUintSaysUptoCard
end Rows
end Go.Proofs.YtipmmjbjgbfgjaaDoor
