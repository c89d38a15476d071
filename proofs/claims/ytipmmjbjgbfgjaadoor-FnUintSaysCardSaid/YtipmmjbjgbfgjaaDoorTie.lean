/-
  DERIVED. GIVEN WITH THE SEED: THE PROGRAM's TIES (one call each: nine closed facts by the kernel) AND EACH ROW's TIE, after the 31st guide's Derived/Test/Toyas{Tie, Card}.lean. No idea stands in it: it is a product of the set-up. Laid BY PROGRAM, IN A SANDBOX (cutbox-door.mjs). By AI agents, Wed Nov 11 2026. No macro, syntax, notation, axiom, sorry.
-/
import Derived.Test.YtipmmjbjgbfgjaaDoorRows
import Derived.LaidByTextLater
import Derived.SevenTiedAt
import Derived.LaidSub
import Derived.LaidOnce
namespace Go.Proofs.YtipmmjbjgbfgjaaDoor
open Go
set_option maxRecDepth 100000
theorem seatTie1 : Tryd.prog.laidByTextLater [("pub-bridlepath/pub/hertzconv.errEmptyInt", Rows.laid_pub_bridlepath_pub_hertzconv_errEmptyInt), ("pub-bridlepath/pub/hertzconv.errUnexpectedFirstChar", Rows.laid_pub_bridlepath_pub_hertzconv_errUnexpectedFirstChar), ("pub-bridlepath/pub/hertzconv.errUnexpectedTrailingChar", Rows.laid_pub_bridlepath_pub_hertzconv_errUnexpectedTrailingChar), ("pub-bridlepath/pub/hertzconv.errTooLongInt", Rows.laid_pub_bridlepath_pub_hertzconv_errTooLongInt)] [.sentinel, .sentinel, .sentinel, .sentinel] true :=
  Program.laidByTextLater_by_one 85 8 2 (by kernel_rfl) (by kernel_rfl) (by kernel_rfl) (by kernel_rfl) (by kernel_rfl) (by kernel_rfl) (fun _ _ => by kernel_rfl)
theorem noOwnUnsafe : Tryd.pinned.checked.prog.headLifts.contains "ownunsafe" = false := by kernel_rfl
theorem tie : Tryd.prog.laidByTextLater [("pub-bridlepath/pub/hertzconv.errEmptyInt", Rows.laid_pub_bridlepath_pub_hertzconv_errEmptyInt), ("pub-bridlepath/pub/hertzconv.errUnexpectedFirstChar", Rows.laid_pub_bridlepath_pub_hertzconv_errUnexpectedFirstChar), ("pub-bridlepath/pub/hertzconv.errUnexpectedTrailingChar", Rows.laid_pub_bridlepath_pub_hertzconv_errUnexpectedTrailingChar), ("pub-bridlepath/pub/hertzconv.errTooLongInt", Rows.laid_pub_bridlepath_pub_hertzconv_errTooLongInt)] [.sentinel, .sentinel, .sentinel, .sentinel] true :=
  Program.laidByTextLater.sub seatTie1 ["pub-bridlepath/pub/hertzconv.errEmptyInt", "pub-bridlepath/pub/hertzconv.errUnexpectedFirstChar", "pub-bridlepath/pub/hertzconv.errUnexpectedTrailingChar", "pub-bridlepath/pub/hertzconv.errTooLongInt"] (by kernel_rfl) (by kernel_rfl)
theorem fnUintBack_row_tie : Rows.fnUintBackRow.laidByTextAt .later Tryd.pinned [.sentinel, .sentinel, .sentinel, .sentinel] true :=
  OpenClaim.laidByTextAt_later rfl rfl tie noOwnUnsafe
theorem fnUintSays_row_tie : Rows.fnUintSaysRow.laidByTextAt .later Tryd.pinned [.sentinel, .sentinel, .sentinel, .sentinel] true :=
  OpenClaim.laidByTextAt_later rfl rfl tie noOwnUnsafe
theorem fnUintBackUpto_row_tie : Rows.fnUintBackUptoRow.laidByTextAt .later Tryd.pinned [.sentinel, .sentinel, .sentinel, .sentinel] true :=
  OpenClaim.laidByTextAt_later rfl rfl tie noOwnUnsafe
theorem fnUintSaysUpto_row_tie : Rows.fnUintSaysUptoRow.laidByTextAt .later Tryd.pinned [.sentinel, .sentinel, .sentinel, .sentinel] true :=
  OpenClaim.laidByTextAt_later rfl rfl tie noOwnUnsafe
end Go.Proofs.YtipmmjbjgbfgjaaDoor
