/-
  No cell of these rows narrows 'for every input' (looked for: loops, veiled, ifaces, maps, wideKeys, modest, calm, conditions, laid).
  DERIVED. THE GIVEN ROWS OF THIS SEAT. 2 by the template 'for every input the law returns true; each argument reads behind the call as it read before'; 0 by the template 'total and deterministic' (their statements: Qxb6609265aTotals.lean).
  GIVEN WITH THE SEED: the statements are not yours to turn. If you find one false, say at which input.
  Laid BY PROGRAM, IN A SANDBOX (cutbox-rows.mjs): the forced cells as the released guide's own fill.sh prints them over the translation 43c14a5c7de80599… (all of the seat's roots in one cut). By AI agents, Wed Nov 11 2026. No macro, syntax, notation, axiom, sorry.
-/
import Derived.Test.Qxb6609265aChecked
import GoSem.Claim
import GoSem.ClaimJoined
import GoSem.ClaimMapViews
import Derived.JoinedTies
import Derived.KernelRfl
namespace Go.Proofs.Qxb6609265a
/- THE CELL 'sum', in the pinned program and in every row, IS THE sha256 OF THE DUMP (.gsa) THAT Qxb6609265aProg.lean LOADS. Nothing in Lean hashes anything: it is a label: what it is worth is what the hold of that sum in a sandbox is worth. -/
noncomputable def Try.pinned : Pinned := { name := "qxb6609265a", sum := "43c14a5c7de80599431cff1251a8b9f1dfb7d88e4a4a53fdb828c88e288644e6", checked := Try.checked }
namespace Rows
def none {H : Type} : Left H := { results := [], args := [] }

/-- 'zzlaws_internal_plan_b1.FnGoalKeyDecodesBack': WHATEVER THE INPUT: true; the input reads as it did. -/
def fnGoalKeyDecodesBackSpec : ChangeSpec := { name := "fnGoalKeyDecodesBack", fn := fun _ => fun
  | [d1, d2] => { results := [.lit (.bool true)], args := [d1, d2] }
  | _ => none }
def fnGoalKeyDecodesBackRow : OpenClaim := { program := "qxb6609265a", sum := "43c14a5c7de80599431cff1251a8b9f1dfb7d88e4a4a53fdb828c88e288644e6", func := "example.com/vestledger/vestledger/zzlaws_internal_plan_b1.FnGoalKeyDecodesBack", spec := "fnGoalKeyDecodesBack", apart := false }
def FnGoalKeyDecodesBackSaid : Prop := fnGoalKeyDecodesBackRow.holds Try.pinned (OpenSpec.ofChange fnGoalKeyDecodesBackSpec)

/-- ITS FALSE NEIGHBOUR: 'it returns false'. Refute it at one input. -/
def fnGoalKeyDecodesBackWrong : ChangeSpec := { name := "fnGoalKeyDecodesBack", fn := fun _ => fun
  | [d1, d2] => { results := [.lit (.bool false)], args := [d1, d2] }
  | _ => none }
def FnGoalKeyDecodesBackWrongFalsely : Prop := fnGoalKeyDecodesBackRow.holds Try.pinned (OpenSpec.ofChange fnGoalKeyDecodesBackWrong)

/-- 'zzlaws_internal_plan_b1.FnGoalKeyTellsGoalsApart': WHATEVER THE INPUT: true; the input reads as it did. -/
def fnGoalKeyTellsGoalsApartSpec : ChangeSpec := { name := "fnGoalKeyTellsGoalsApart", fn := fun _ => fun
  | [d1, d2, d3, d4] => { results := [.lit (.bool true)], args := [d1, d2, d3, d4] }
  | _ => none }
def fnGoalKeyTellsGoalsApartRow : OpenClaim := { program := "qxb6609265a", sum := "43c14a5c7de80599431cff1251a8b9f1dfb7d88e4a4a53fdb828c88e288644e6", func := "example.com/vestledger/vestledger/zzlaws_internal_plan_b1.FnGoalKeyTellsGoalsApart", spec := "fnGoalKeyTellsGoalsApart", apart := false }
def FnGoalKeyTellsGoalsApartSaid : Prop := fnGoalKeyTellsGoalsApartRow.holds Try.pinned (OpenSpec.ofChange fnGoalKeyTellsGoalsApartSpec)

/-- ITS FALSE NEIGHBOUR: 'it returns false'. Refute it at one input. -/
def fnGoalKeyTellsGoalsApartWrong : ChangeSpec := { name := "fnGoalKeyTellsGoalsApart", fn := fun _ => fun
  | [d1, d2, d3, d4] => { results := [.lit (.bool false)], args := [d1, d2, d3, d4] }
  | _ => none }
def FnGoalKeyTellsGoalsApartWrongFalsely : Prop := fnGoalKeyTellsGoalsApartRow.holds Try.pinned (OpenSpec.ofChange fnGoalKeyTellsGoalsApartWrong)

end Rows
end Go.Proofs.Qxb6609265a
