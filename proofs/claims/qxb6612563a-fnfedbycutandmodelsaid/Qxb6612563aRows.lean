/-
  No cell of these rows narrows 'for every input' (looked for: loops, veiled, ifaces, maps, wideKeys, modest, calm, conditions, laid).
  DERIVED. THE GIVEN ROWS OF THIS SEAT. 2 by the template 'for every input the law returns true; each argument reads behind the call as it read before'; 0 by the template 'total and deterministic' (their statements: Qxb6612563aTotals.lean).
  GIVEN WITH THE SEED: the statements are not yours to turn. If you find one false, say at which input.
  Laid BY PROGRAM, IN A SANDBOX (cutbox-rows.mjs): the forced cells as the released guide's own fill.sh prints them over the translation 8ce60c9228e4767f… (all of the seat's roots in one cut). By AI agents, Wed Nov 11 2026. No macro, syntax, notation, axiom, sorry.
-/
import Derived.Test.Qxb6612563aChecked
import GoSem.Claim
import GoSem.ClaimJoined
import GoSem.ClaimMapViews
import Derived.JoinedTies
import Derived.KernelRfl
namespace Go.Proofs.Qxb6612563a
/- THE CELL 'sum', in the pinned program and in every row, IS THE sha256 OF THE DUMP (.gsa) THAT Qxb6612563aProg.lean LOADS. Nothing in Lean hashes anything: it is a label: what it is worth is what the hold of that sum in a sandbox is worth. -/
noncomputable def Try.pinned : Pinned := { name := "qxb6612563a", sum := "8ce60c9228e4767f3c946fdc1a00adddc2dc624eb381747de3f43dd91d296b38", checked := Try.checked }
namespace Rows
def none {H : Type} : Left H := { results := [], args := [] }

/-- 'zzlaws_root_b1.FnFedByCutAndModel': WHATEVER THE INPUT: true; the input reads as it did. -/
def fnFedByCutAndModelSpec : ChangeSpec := { name := "fnFedByCutAndModel", fn := fun _ => fun
  | [d1, d2, d3, d4, d5, d6] => { results := [.lit (.bool true)], args := [d1, d2, d3, d4, d5, d6] }
  | _ => none }
def fnFedByCutAndModelRow : OpenClaim := { program := "qxb6612563a", sum := "8ce60c9228e4767f3c946fdc1a00adddc2dc624eb381747de3f43dd91d296b38", func := "example.com/spanwell/spanwell/zzlaws_root_b1.FnFedByCutAndModel", spec := "fnFedByCutAndModel", unfollowed := true, recurses := true, apart := false }
def FnFedByCutAndModelSaid : Prop := fnFedByCutAndModelRow.holds Try.pinned (OpenSpec.ofChange fnFedByCutAndModelSpec)

/-- ITS FALSE NEIGHBOUR: 'it returns false'. Refute it at one input. -/
def fnFedByCutAndModelWrong : ChangeSpec := { name := "fnFedByCutAndModel", fn := fun _ => fun
  | [d1, d2, d3, d4, d5, d6] => { results := [.lit (.bool false)], args := [d1, d2, d3, d4, d5, d6] }
  | _ => none }
def FnFedByCutAndModelWrongFalsely : Prop := fnFedByCutAndModelRow.holds Try.pinned (OpenSpec.ofChange fnFedByCutAndModelWrong)

/-- 'zzlaws_root_b1.FnFedByInsertAnywhere': WHATEVER THE INPUT: true; the input reads as it did. -/
def fnFedByInsertAnywhereSpec : ChangeSpec := { name := "fnFedByInsertAnywhere", fn := fun _ => fun
  | [d1, d2, d3, d4, d5, d6, d7, d8] => { results := [.lit (.bool true)], args := [d1, d2, d3, d4, d5, d6, d7, d8] }
  | _ => none }
def fnFedByInsertAnywhereRow : OpenClaim := { program := "qxb6612563a", sum := "8ce60c9228e4767f3c946fdc1a00adddc2dc624eb381747de3f43dd91d296b38", func := "example.com/spanwell/spanwell/zzlaws_root_b1.FnFedByInsertAnywhere", spec := "fnFedByInsertAnywhere", unfollowed := true, recurses := true, apart := false }
def FnFedByInsertAnywhereSaid : Prop := fnFedByInsertAnywhereRow.holds Try.pinned (OpenSpec.ofChange fnFedByInsertAnywhereSpec)

/-- ITS FALSE NEIGHBOUR: 'it returns false'. Refute it at one input. -/
def fnFedByInsertAnywhereWrong : ChangeSpec := { name := "fnFedByInsertAnywhere", fn := fun _ => fun
  | [d1, d2, d3, d4, d5, d6, d7, d8] => { results := [.lit (.bool false)], args := [d1, d2, d3, d4, d5, d6, d7, d8] }
  | _ => none }
def FnFedByInsertAnywhereWrongFalsely : Prop := fnFedByInsertAnywhereRow.holds Try.pinned (OpenSpec.ofChange fnFedByInsertAnywhereWrong)

end Rows
end Go.Proofs.Qxb6612563a
