/-
  DERIVED. GIVEN WITH THE SEED: THE CARDS: each row of Qxb6609340aDoorRows.lean that lists a variable, with what it lists TIED to the program's text (the seventh form; the later family's looks); each row that meets fmt, with fmt's text TOLD by the authors' own Lean function (tested against real Go, not proved from fmt's source: count such statements apart). THE CARD IS WHAT COUNTS. Prove the row's statement (the work); the ties are given (Qxb6609340aDoorTie.lean); close each card by the builder's one call (the guide's Derived/Test/ToyasCard.lean, 'card_holds'). Laid BY PROGRAM, IN A SANDBOX (cutbox-door.mjs). By AI agents, Wed Nov 11 2026. No macro, syntax, notation, axiom, sorry.
-/
import Derived.Test.Qxb6609340aDoorRows
import GoSem.ClaimSeven
namespace Go.Proofs.Qxb6609340aDoor
namespace Rows

/-- THE TIED CARD OF 'zzlaws_internal_lookup_b1.FnNextAfterOneAnswer'. -/
def fnNextAfterOneAnswerCard : Claim7 := { stood := { row := fnNextAfterOneAnswerRow, standIns := [], harness := (true, "72f07d7854d2382f734662f85bbe39b6a67f16f4d2906dff8b24b2aa62c5dca1"), looks := false }, kinds := [], alts := [], laidByText := true, laidKinds := [.sentinel, .sentinel], laidTests := true, laidLooks := .later }
def FnNextAfterOneAnswerCardSaid : Prop := Claim7.holds Tryd.pinned (.plain (OpenSpec.ofChange fnNextAfterOneAnswerSpec)) fnNextAfterOneAnswerCard

/-- THE TIED CARD OF 'zzlaws_internal_lookup_b1.FnNextFollowsSetAsideModel'. -/
def fnNextFollowsSetAsideModelCard : Claim7 := { stood := { row := fnNextFollowsSetAsideModelRow, standIns := [], harness := (true, "72f07d7854d2382f734662f85bbe39b6a67f16f4d2906dff8b24b2aa62c5dca1"), looks := false }, kinds := [], alts := [], laidByText := true, laidKinds := [.sentinel, .sentinel], laidTests := true, laidLooks := .later }
def FnNextFollowsSetAsideModelCardSaid : Prop := Claim7.holds Tryd.pinned (.plain (OpenSpec.ofChange fnNextFollowsSetAsideModelSpec)) fnNextFollowsSetAsideModelCard

/-- THE TIED CARD OF 'zzlaws_internal_lookup_b1.FnResultAfterOneAnswer'. -/
def fnResultAfterOneAnswerCard : Claim7 := { stood := { row := fnResultAfterOneAnswerRow, standIns := [], harness := (true, "72f07d7854d2382f734662f85bbe39b6a67f16f4d2906dff8b24b2aa62c5dca1"), looks := false }, kinds := [], alts := [], laidByText := true, laidKinds := [.sentinel, .sentinel], laidTests := true, laidLooks := .later }
def FnResultAfterOneAnswerCardSaid : Prop := Claim7.holds Tryd.pinned (.plain (OpenSpec.ofChange fnResultAfterOneAnswerSpec)) fnResultAfterOneAnswerCard

/-- THE TIED CARD OF 'zzlaws_internal_lookup_b1.FnResultOfApproachingChain'. -/
def fnResultOfApproachingChainCard : Claim7 := { stood := { row := fnResultOfApproachingChainRow, standIns := [], harness := (true, "72f07d7854d2382f734662f85bbe39b6a67f16f4d2906dff8b24b2aa62c5dca1"), looks := false }, kinds := [], alts := [], laidByText := true, laidKinds := [.sentinel, .sentinel], laidTests := true, laidLooks := .later }
def FnResultOfApproachingChainCardSaid : Prop := Claim7.holds Tryd.pinned (.plain (OpenSpec.ofChange fnResultOfApproachingChainSpec)) fnResultOfApproachingChainCard
end Rows
end Go.Proofs.Qxb6609340aDoor
