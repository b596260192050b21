/-
  DERIVED. GIVEN WITH THE SEED: THE PROGRAM's TIES (one call each: nine closed facts by the kernel) AND EACH ROW's TIE, after the 31st guide's Derived/Test/Toyas{Tie, Card}.lean. No idea stands in it: it is a product of the set-up. Laid BY PROGRAM, IN A SANDBOX (cutbox-door.mjs). By AI agents, Wed Nov 11 2026. No macro, syntax, notation, axiom, sorry.
-/
import Derived.Test.Qxb6609340aDoorRows
import Derived.LaidByTextLater
import Derived.SevenTiedAt
import Derived.LaidSub
import Derived.LaidOnce
namespace Go.Proofs.Qxb6609340aDoor
open Go
set_option maxRecDepth 100000
theorem seatTie1 : Tryd.prog.laidByTextLater [("example.com/ringhop/ringhop/internal/lookup.ErrNoProgress", Rows.laid_example_com_ringhop_ringhop_internal_lookup_ErrNoProgress), ("example.com/ringhop/ringhop/internal/lookup.ErrNoCandidate", Rows.laid_example_com_ringhop_ringhop_internal_lookup_ErrNoCandidate)] [.sentinel, .sentinel] true :=
  Program.laidByTextLater_by_one 47 8 2 (by kernel_rfl) (by kernel_rfl) (by kernel_rfl) (by kernel_rfl) (by kernel_rfl) (by kernel_rfl) (fun _ _ => by kernel_rfl)
theorem noOwnUnsafe : Tryd.pinned.checked.prog.headLifts.contains "ownunsafe" = false := by kernel_rfl
theorem tie : Tryd.prog.laidByTextLater [("example.com/ringhop/ringhop/internal/lookup.ErrNoProgress", Rows.laid_example_com_ringhop_ringhop_internal_lookup_ErrNoProgress), ("example.com/ringhop/ringhop/internal/lookup.ErrNoCandidate", Rows.laid_example_com_ringhop_ringhop_internal_lookup_ErrNoCandidate)] [.sentinel, .sentinel] true :=
  Program.laidByTextLater.sub seatTie1 ["example.com/ringhop/ringhop/internal/lookup.ErrNoProgress", "example.com/ringhop/ringhop/internal/lookup.ErrNoCandidate"] (by kernel_rfl) (by kernel_rfl)
theorem fnNextAfterOneAnswer_row_tie : Rows.fnNextAfterOneAnswerRow.laidByTextAt .later Tryd.pinned [.sentinel, .sentinel] true :=
  OpenClaim.laidByTextAt_later rfl rfl tie noOwnUnsafe
theorem fnNextFollowsSetAsideModel_row_tie : Rows.fnNextFollowsSetAsideModelRow.laidByTextAt .later Tryd.pinned [.sentinel, .sentinel] true :=
  OpenClaim.laidByTextAt_later rfl rfl tie noOwnUnsafe
theorem fnResultAfterOneAnswer_row_tie : Rows.fnResultAfterOneAnswerRow.laidByTextAt .later Tryd.pinned [.sentinel, .sentinel] true :=
  OpenClaim.laidByTextAt_later rfl rfl tie noOwnUnsafe
theorem fnResultOfApproachingChain_row_tie : Rows.fnResultOfApproachingChainRow.laidByTextAt .later Tryd.pinned [.sentinel, .sentinel] true :=
  OpenClaim.laidByTextAt_later rfl rfl tie noOwnUnsafe
end Go.Proofs.Qxb6609340aDoor
