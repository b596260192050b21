/-
  No cell of these rows narrows 'for every input' (looked for: loops, veiled, ifaces, maps, wideKeys, modest, calm, conditions, laid).
  DERIVED. THE GIVEN ROWS OF THIS SEAT. 1 by the template 'for every input the law returns true; each argument reads behind the call as it read before'; 0 by the template 'total and deterministic' (their statements: Qxb6609279aTotals.lean).
  GIVEN WITH THE SEED: the statements are not yours to turn. If you find one false, say at which input.
  Laid BY PROGRAM, IN A SANDBOX (cutbox-rows.mjs): the forced cells as the released guide's own fill.sh prints them over the translation b8d30d70818a2903… (all of the seat's roots in one cut). By AI agents, Wed Nov 11 2026. No macro, syntax, notation, axiom, sorry.
-/
import Derived.Test.Qxb6609279aChecked
import GoSem.Claim
import GoSem.ClaimJoined
import GoSem.ClaimMapViews
import Derived.JoinedTies
import Derived.KernelRfl
namespace Go.Proofs.Qxb6609279a
/- THE CELL 'sum', in the pinned program and in every row, IS THE sha256 OF THE DUMP (.gsa) THAT Qxb6609279aProg.lean LOADS. Nothing in Lean hashes anything: it is a label: what it is worth is what the hold of that sum in a sandbox is worth. -/
noncomputable def Try.pinned : Pinned := { name := "qxb6609279a", sum := "b8d30d70818a29030ff6df2c5bbf0f1b8a5dd9754ef3ce2fb5e289ff40c2f4de", checked := Try.checked }
namespace Rows
def none {H : Type} : Left H := { results := [], args := [] }

/-- 'zzlaws_root_b1.FnLastingMatchesKeptModel': WHATEVER THE INPUT: true; the input reads as it did. -/
def fnLastingMatchesKeptModelSpec : ChangeSpec := { name := "fnLastingMatchesKeptModel", fn := fun _ => fun
  | [d1, d2, d3, d4, d5] => { results := [.lit (.bool true)], args := [d1, d2, d3, d4, d5] }
  | _ => none }
def fnLastingMatchesKeptModelRow : OpenClaim := { program := "qxb6609279a", sum := "b8d30d70818a29030ff6df2c5bbf0f1b8a5dd9754ef3ce2fb5e289ff40c2f4de", func := "example.com/libpullcred/libpullcred/zzlaws_root_b1.FnLastingMatchesKeptModel", spec := "fnLastingMatchesKeptModel", unfollowed := true, recurses := true, plainKeys := false, apart := false }
def FnLastingMatchesKeptModelSaid : Prop := fnLastingMatchesKeptModelRow.holds Try.pinned (OpenSpec.ofChange fnLastingMatchesKeptModelSpec)

/-- ITS FALSE NEIGHBOUR: 'it returns false'. Refute it at one input. -/
def fnLastingMatchesKeptModelWrong : ChangeSpec := { name := "fnLastingMatchesKeptModel", fn := fun _ => fun
  | [d1, d2, d3, d4, d5] => { results := [.lit (.bool false)], args := [d1, d2, d3, d4, d5] }
  | _ => none }
def FnLastingMatchesKeptModelWrongFalsely : Prop := fnLastingMatchesKeptModelRow.holds Try.pinned (OpenSpec.ofChange fnLastingMatchesKeptModelWrong)

end Rows
end Go.Proofs.Qxb6609279a
