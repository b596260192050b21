/-
  NARROWER THAN 'FOR EVERY INPUT', by the rows' own cells (each row's printed sentence says how): FnNextAfterOneAnswer: ifaces, laid · FnNextFollowsSetAsideModel: ifaces, laid · FnResultAfterOneAnswer: ifaces, laid · FnResultOfApproachingChain: ifaces, laid.
  DERIVED. THE GIVEN ROWS OF THIS SEAT. 4 by the template 'for every input the law returns true; each argument reads behind the call as it read before'; 0 by the template 'total and deterministic' (their statements: Qxb6609340aDoorTotals.lean).
  GIVEN WITH THE SEED: the statements are not yours to turn. If you find one false, say at which input.
  Laid BY PROGRAM, IN A SANDBOX (cutbox-rows.mjs): the forced cells as the released guide's own fill.sh prints them over the translation e85e2d2ccda0bc0c… (all of the seat's roots in one cut). By AI agents, Wed Nov 11 2026. No macro, syntax, notation, axiom, sorry.
-/
import Derived.Test.Qxb6609340aDoorChecked
import GoSem.Claim
import GoSem.ClaimJoined
import GoSem.ClaimMapViews
import Derived.JoinedTies
import Derived.KernelRfl
namespace Go.Proofs.Qxb6609340aDoor
/- THE CELL 'sum', in the pinned program and in every row, IS THE sha256 OF THE DUMP (.gsa) THAT Qxb6609340aDoorProg.lean LOADS. Nothing in Lean hashes anything: it is a label: what it is worth is what the hold of that sum in a sandbox is worth. -/
noncomputable def Tryd.pinned : Pinned := { name := "qxb6609340adoor", sum := "e85e2d2ccda0bc0c6db864a51a6def66ab6f3718fa085b3a49b739417d88bbb2", checked := Tryd.checked }
namespace Rows
def none {H : Type} : Left H := { results := [], args := [] }

/- WHAT THE LISTED PACKAGE-LEVEL VARIABLES READ AS WHEN THE CALL BEGINS. Each datum BY PROGRAM (the guide's laid-datum.mjs) off the statement by which the dump's own 'gosem.cut.vars' lays the variable. In a bare row this is a premise. The card (Qxb6609340aDoorCards.lean) ties it to the program's text. -/
def laid_example_com_ringhop_ringhop_internal_lookup_ErrNoProgress {H : Type} : DataW H := .iface "*errors.errorString" (.ptr (.agg [.lit (.string [108, 111, 111, 107, 117, 112, 58, 32, 97, 32, 110, 111, 100, 101, 32, 97, 110, 115, 119, 101, 114, 101, 100, 32, 119, 105, 116, 104, 32, 97, 32, 115, 116, 101, 112, 32, 116, 104, 97, 116, 32, 100, 111, 101, 115, 32, 110, 111, 116, 32, 97, 112, 112, 114, 111, 97, 99, 104, 32, 116, 104, 101, 32, 107, 101, 121])]))
def laid_example_com_ringhop_ringhop_internal_lookup_ErrNoCandidate {H : Type} : DataW H := .iface "*errors.errorString" (.ptr (.agg [.lit (.string [108, 111, 111, 107, 117, 112, 58, 32, 110, 111, 32, 108, 105, 118, 101, 32, 110, 111, 100, 101, 32, 105, 115, 32, 108, 101, 102, 116, 32, 116, 111, 32, 97, 115, 107])]))

/-- 'zzlaws_internal_lookup_b1.FnNextAfterOneAnswer': WHATEVER THE INPUT: true; the input reads as it did. -/
def fnNextAfterOneAnswerSpec : ChangeSpec := { name := "fnNextAfterOneAnswer", vars := ["example.com/ringhop/ringhop/internal/lookup.ErrNoProgress", "example.com/ringhop/ringhop/internal/lookup.ErrNoCandidate"], fn := fun _ => fun
  | [d1, d2, d3, d4, g1, g2] => { results := [.lit (.bool true)], args := [d1, d2, d3, d4], vars := [g1, g2] }
  | _ => none }
def fnNextAfterOneAnswerRow : OpenClaim := { program := "qxb6609340adoor", sum := "e85e2d2ccda0bc0c6db864a51a6def66ab6f3718fa085b3a49b739417d88bbb2", func := "example.com/ringhop/ringhop/zzlaws_internal_lookup_b1.FnNextAfterOneAnswer", spec := "fnNextAfterOneAnswer", unfollowed := true, recurses := true, named := ["example.com/ringhop/ringhop/internal/lookup.ErrNoProgress", "example.com/ringhop/ringhop/internal/lookup.ErrNoCandidate"], ifaces := true, apart := false, laid := [("example.com/ringhop/ringhop/internal/lookup.ErrNoProgress", laid_example_com_ringhop_ringhop_internal_lookup_ErrNoProgress), ("example.com/ringhop/ringhop/internal/lookup.ErrNoCandidate", laid_example_com_ringhop_ringhop_internal_lookup_ErrNoCandidate)] }
def FnNextAfterOneAnswerSaid : Prop := fnNextAfterOneAnswerRow.holds Tryd.pinned (OpenSpec.ofChange fnNextAfterOneAnswerSpec)

/-- ITS FALSE NEIGHBOUR: 'it returns false'. Refute it at one input. -/
def fnNextAfterOneAnswerWrong : ChangeSpec := { name := "fnNextAfterOneAnswer", vars := ["example.com/ringhop/ringhop/internal/lookup.ErrNoProgress", "example.com/ringhop/ringhop/internal/lookup.ErrNoCandidate"], fn := fun _ => fun
  | [d1, d2, d3, d4, g1, g2] => { results := [.lit (.bool false)], args := [d1, d2, d3, d4], vars := [g1, g2] }
  | _ => none }
def FnNextAfterOneAnswerWrongFalsely : Prop := fnNextAfterOneAnswerRow.holds Tryd.pinned (OpenSpec.ofChange fnNextAfterOneAnswerWrong)

/-- 'zzlaws_internal_lookup_b1.FnNextFollowsSetAsideModel': WHATEVER THE INPUT: true; the input reads as it did. -/
def fnNextFollowsSetAsideModelSpec : ChangeSpec := { name := "fnNextFollowsSetAsideModel", vars := ["example.com/ringhop/ringhop/internal/lookup.ErrNoProgress", "example.com/ringhop/ringhop/internal/lookup.ErrNoCandidate"], fn := fun _ => fun
  | [d1, d2, d3, d4, g1, g2] => { results := [.lit (.bool true)], args := [d1, d2, d3, d4], vars := [g1, g2] }
  | _ => none }
def fnNextFollowsSetAsideModelRow : OpenClaim := { program := "qxb6609340adoor", sum := "e85e2d2ccda0bc0c6db864a51a6def66ab6f3718fa085b3a49b739417d88bbb2", func := "example.com/ringhop/ringhop/zzlaws_internal_lookup_b1.FnNextFollowsSetAsideModel", spec := "fnNextFollowsSetAsideModel", unfollowed := true, recurses := true, named := ["example.com/ringhop/ringhop/internal/lookup.ErrNoProgress", "example.com/ringhop/ringhop/internal/lookup.ErrNoCandidate"], ifaces := true, apart := false, laid := [("example.com/ringhop/ringhop/internal/lookup.ErrNoProgress", laid_example_com_ringhop_ringhop_internal_lookup_ErrNoProgress), ("example.com/ringhop/ringhop/internal/lookup.ErrNoCandidate", laid_example_com_ringhop_ringhop_internal_lookup_ErrNoCandidate)] }
def FnNextFollowsSetAsideModelSaid : Prop := fnNextFollowsSetAsideModelRow.holds Tryd.pinned (OpenSpec.ofChange fnNextFollowsSetAsideModelSpec)

/-- ITS FALSE NEIGHBOUR: 'it returns false'. Refute it at one input. -/
def fnNextFollowsSetAsideModelWrong : ChangeSpec := { name := "fnNextFollowsSetAsideModel", vars := ["example.com/ringhop/ringhop/internal/lookup.ErrNoProgress", "example.com/ringhop/ringhop/internal/lookup.ErrNoCandidate"], fn := fun _ => fun
  | [d1, d2, d3, d4, g1, g2] => { results := [.lit (.bool false)], args := [d1, d2, d3, d4], vars := [g1, g2] }
  | _ => none }
def FnNextFollowsSetAsideModelWrongFalsely : Prop := fnNextFollowsSetAsideModelRow.holds Tryd.pinned (OpenSpec.ofChange fnNextFollowsSetAsideModelWrong)

/-- 'zzlaws_internal_lookup_b1.FnResultAfterOneAnswer': WHATEVER THE INPUT: true; the input reads as it did. -/
def fnResultAfterOneAnswerSpec : ChangeSpec := { name := "fnResultAfterOneAnswer", vars := ["example.com/ringhop/ringhop/internal/lookup.ErrNoProgress", "example.com/ringhop/ringhop/internal/lookup.ErrNoCandidate"], fn := fun _ => fun
  | [d1, d2, d3, d4, g1, g2] => { results := [.lit (.bool true)], args := [d1, d2, d3, d4], vars := [g1, g2] }
  | _ => none }
def fnResultAfterOneAnswerRow : OpenClaim := { program := "qxb6609340adoor", sum := "e85e2d2ccda0bc0c6db864a51a6def66ab6f3718fa085b3a49b739417d88bbb2", func := "example.com/ringhop/ringhop/zzlaws_internal_lookup_b1.FnResultAfterOneAnswer", spec := "fnResultAfterOneAnswer", unfollowed := true, recurses := true, named := ["example.com/ringhop/ringhop/internal/lookup.ErrNoProgress", "example.com/ringhop/ringhop/internal/lookup.ErrNoCandidate"], ifaces := true, apart := false, laid := [("example.com/ringhop/ringhop/internal/lookup.ErrNoProgress", laid_example_com_ringhop_ringhop_internal_lookup_ErrNoProgress), ("example.com/ringhop/ringhop/internal/lookup.ErrNoCandidate", laid_example_com_ringhop_ringhop_internal_lookup_ErrNoCandidate)] }
def FnResultAfterOneAnswerSaid : Prop := fnResultAfterOneAnswerRow.holds Tryd.pinned (OpenSpec.ofChange fnResultAfterOneAnswerSpec)

/-- ITS FALSE NEIGHBOUR: 'it returns false'. Refute it at one input. -/
def fnResultAfterOneAnswerWrong : ChangeSpec := { name := "fnResultAfterOneAnswer", vars := ["example.com/ringhop/ringhop/internal/lookup.ErrNoProgress", "example.com/ringhop/ringhop/internal/lookup.ErrNoCandidate"], fn := fun _ => fun
  | [d1, d2, d3, d4, g1, g2] => { results := [.lit (.bool false)], args := [d1, d2, d3, d4], vars := [g1, g2] }
  | _ => none }
def FnResultAfterOneAnswerWrongFalsely : Prop := fnResultAfterOneAnswerRow.holds Tryd.pinned (OpenSpec.ofChange fnResultAfterOneAnswerWrong)

/-- 'zzlaws_internal_lookup_b1.FnResultOfApproachingChain': WHATEVER THE INPUT: true; the input reads as it did. -/
def fnResultOfApproachingChainSpec : ChangeSpec := { name := "fnResultOfApproachingChain", vars := ["example.com/ringhop/ringhop/internal/lookup.ErrNoProgress", "example.com/ringhop/ringhop/internal/lookup.ErrNoCandidate"], fn := fun _ => fun
  | [d1, d2, d3, d4, g1, g2] => { results := [.lit (.bool true)], args := [d1, d2, d3, d4], vars := [g1, g2] }
  | _ => none }
def fnResultOfApproachingChainRow : OpenClaim := { program := "qxb6609340adoor", sum := "e85e2d2ccda0bc0c6db864a51a6def66ab6f3718fa085b3a49b739417d88bbb2", func := "example.com/ringhop/ringhop/zzlaws_internal_lookup_b1.FnResultOfApproachingChain", spec := "fnResultOfApproachingChain", unfollowed := true, recurses := true, named := ["example.com/ringhop/ringhop/internal/lookup.ErrNoProgress", "example.com/ringhop/ringhop/internal/lookup.ErrNoCandidate"], ifaces := true, apart := false, laid := [("example.com/ringhop/ringhop/internal/lookup.ErrNoProgress", laid_example_com_ringhop_ringhop_internal_lookup_ErrNoProgress), ("example.com/ringhop/ringhop/internal/lookup.ErrNoCandidate", laid_example_com_ringhop_ringhop_internal_lookup_ErrNoCandidate)] }
def FnResultOfApproachingChainSaid : Prop := fnResultOfApproachingChainRow.holds Tryd.pinned (OpenSpec.ofChange fnResultOfApproachingChainSpec)

/-- ITS FALSE NEIGHBOUR: 'it returns false'. Refute it at one input. -/
def fnResultOfApproachingChainWrong : ChangeSpec := { name := "fnResultOfApproachingChain", vars := ["example.com/ringhop/ringhop/internal/lookup.ErrNoProgress", "example.com/ringhop/ringhop/internal/lookup.ErrNoCandidate"], fn := fun _ => fun
  | [d1, d2, d3, d4, g1, g2] => { results := [.lit (.bool false)], args := [d1, d2, d3, d4], vars := [g1, g2] }
  | _ => none }
def FnResultOfApproachingChainWrongFalsely : Prop := fnResultOfApproachingChainRow.holds Tryd.pinned (OpenSpec.ofChange fnResultOfApproachingChainWrong)

end Rows
end Go.Proofs.Qxb6609340aDoor
