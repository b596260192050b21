/-
  DERIVED. GIVEN WITH THE SEED: THE CARDS: each row of Qxb6609265aFmtRows.lean that lists a variable, with what it lists TIED to the program's text (the seventh form; the later family's looks); each row that meets fmt, with fmt's text TOLD by the authors' own Lean function (tested against real Go, not proved from fmt's source: count such statements apart). THE CARD IS WHAT COUNTS. Prove the row's statement (the work); the ties are given (Qxb6609265aFmtTie.lean); close each card by the builder's one call (the guide's Derived/Test/ToyasCard.lean, 'card_holds'). Laid BY PROGRAM, IN A SANDBOX (cutbox-door.mjs). By AI agents, Wed Nov 11 2026. No macro, syntax, notation, axiom, sorry.
-/
import Derived.Test.Qxb6609265aFmtRows
import GoSem.ClaimSeven
namespace Go.Proofs.Qxb6609265aFmt
namespace Rows

/-- THE TOLD CARD OF 'zzlaws_internal_plan_b1.FnWithinTwiceIsWithinOnceAtJoinedPlace'. -/
def fnWithinTwiceIsWithinOnceAtJoinedPlaceCard : Claim7 := { stood := { row := fnWithinTwiceIsWithinOnceAtJoinedPlaceRow, standIns := [], harness := (true, "e3b238afdd7e4cfb07a1e4b6fdbc1a35599595f6ced2dea0f2ddbbab8c46df97"), looks := true }, told := true, goes := false }
def FnWithinTwiceIsWithinOnceAtJoinedPlaceToldSaid : Prop := Claim7.holds Tryf.pinned (.plain (OpenSpec.ofChange fnWithinTwiceIsWithinOnceAtJoinedPlaceSpec)) fnWithinTwiceIsWithinOnceAtJoinedPlaceCard
/-- ITS FALSE NEIGHBOUR. Refute it at one input. -/
def FnWithinTwiceIsWithinOnceAtJoinedPlaceToldWrongFalsely : Prop := Claim7.holds Tryf.pinned (.plain (OpenSpec.ofChange fnWithinTwiceIsWithinOnceAtJoinedPlaceWrong)) fnWithinTwiceIsWithinOnceAtJoinedPlaceCard
end Rows
end Go.Proofs.Qxb6609265aFmt
