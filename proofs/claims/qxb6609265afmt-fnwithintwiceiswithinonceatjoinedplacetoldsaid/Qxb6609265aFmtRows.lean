/-
  No cell of these rows narrows 'for every input' (looked for: loops, veiled, ifaces, maps, wideKeys, modest, calm, conditions, laid).
  DERIVED. THE GIVEN ROWS OF THIS SEAT. 1 by the template 'for every input the law returns true; each argument reads behind the call as it read before'; 0 by the template 'total and deterministic' (their statements: Qxb6609265aFmtTotals.lean).
  GIVEN WITH THE SEED: the statements are not yours to turn. If you find one false, say at which input.
  Laid BY PROGRAM, IN A SANDBOX (cutbox-rows.mjs): the forced cells as the released guide's own fill.sh prints them over the translation a46493cc021238c4… (all of the seat's roots in one cut). By AI agents, Wed Nov 11 2026. No macro, syntax, notation, axiom, sorry.
-/
import Derived.Test.Qxb6609265aFmtChecked
import GoSem.Claim
import GoSem.ClaimJoined
import GoSem.ClaimMapViews
import Derived.JoinedTies
import Derived.KernelRfl
namespace Go.Proofs.Qxb6609265aFmt
/- THE CELL 'sum', in the pinned program and in every row, IS THE sha256 OF THE DUMP (.gsa) THAT Qxb6609265aFmtProg.lean LOADS. Nothing in Lean hashes anything: it is a label: what it is worth is what the hold of that sum in a sandbox is worth. -/
noncomputable def Tryf.pinned : Pinned := { name := "qxb6609265afmt", sum := "a46493cc021238c4d119349f1b2527b8c2b88b21517b1e54739da641f94f465c", checked := Tryf.checked }
namespace Rows
def none {H : Type} : Left H := { results := [], args := [] }

/-- 'zzlaws_internal_plan_b1.FnWithinTwiceIsWithinOnceAtJoinedPlace': WHATEVER THE INPUT: true; the input reads as it did. -/
def fnWithinTwiceIsWithinOnceAtJoinedPlaceSpec : ChangeSpec := { name := "fnWithinTwiceIsWithinOnceAtJoinedPlace", fn := fun _ => fun
  | [d1, d2, d3, d4, d5] => { results := [.lit (.bool true)], args := [d1, d2, d3, d4, d5] }
  | _ => none }
def fnWithinTwiceIsWithinOnceAtJoinedPlaceRow : OpenClaim := { program := "qxb6609265afmt", sum := "a46493cc021238c4d119349f1b2527b8c2b88b21517b1e54739da641f94f465c", func := "example.com/vestledger/vestledger/zzlaws_internal_plan_b1.FnWithinTwiceIsWithinOnceAtJoinedPlace", spec := "fnWithinTwiceIsWithinOnceAtJoinedPlace", stops := ["fmt.errorf, its operands' methods called"], inPlace := ["fmt.errorf"], unfollowed := true, recurses := true, apart := false }
/-- NO THEOREM (fmt's text is open here; it may be false): for the released tool's asking of the row's closed facts alone. THE STATEMENT IS 'FnWithinTwiceIsWithinOnceAtJoinedPlaceToldSaid' (Qxb6609265aFmtCards.lean). -/
def FnWithinTwiceIsWithinOnceAtJoinedPlaceFormAsk : Prop := fnWithinTwiceIsWithinOnceAtJoinedPlaceRow.holds Tryf.pinned (OpenSpec.ofChange fnWithinTwiceIsWithinOnceAtJoinedPlaceSpec)

/-- ITS FALSE NEIGHBOUR: 'it returns false'. Refute it at one input. -/
def fnWithinTwiceIsWithinOnceAtJoinedPlaceWrong : ChangeSpec := { name := "fnWithinTwiceIsWithinOnceAtJoinedPlace", fn := fun _ => fun
  | [d1, d2, d3, d4, d5] => { results := [.lit (.bool false)], args := [d1, d2, d3, d4, d5] }
  | _ => none }
def FnWithinTwiceIsWithinOnceAtJoinedPlaceWrongFormAsk : Prop := fnWithinTwiceIsWithinOnceAtJoinedPlaceRow.holds Tryf.pinned (OpenSpec.ofChange fnWithinTwiceIsWithinOnceAtJoinedPlaceWrong)

end Rows
end Go.Proofs.Qxb6609265aFmt
