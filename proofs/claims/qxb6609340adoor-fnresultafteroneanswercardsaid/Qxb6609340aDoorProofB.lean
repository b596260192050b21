/-
  'Rows.FnResultAfterOneAnswerCardSaid': the row, then the tied card by the builder's one call.
-/
import Derived.Test.Qxb6609340aDoorLift
import Derived.Test.Qxb6609340aDoorTopB
import Derived.Test.Qxb6609340aDoorTie
import Derived.Test.Qxb6609340aDoorCards
import Derived.SevenTiedAt
namespace Go.Proofs.Qxb6609340aDoor.fnResultAfterOneAnswer
open Go.ChangeShapes Go.WideShapes Go.ChangeAt Go.RowKit
set_option linter.unusedVariables false

set_option maxRecDepth 100000 in
theorem lifted (os : Os) (started : os.Started) (H : Type) (enc : TypeId × Value → H) :
    ReturnsInHanded {} Tryd.checked os 5 .any (fun w args => (Rows.fnResultAfterOneAnswerSpec.pre enc Tryd.prog Tryd.f5 [] false w args ∧ laidMetH Tryd.prog theLaid w) ∧ sizedMet enc Tryd.prog Tryd.f5 (OpenSpec.ofChange Rows.fnResultAfterOneAnswerSpec) false w args)
      (Rows.fnResultAfterOneAnswerSpec.post enc Tryd.prog Tryd.f5 false true false false) := by
  refine returnsInHanded_of_change_and (C := Tryd.checked) (X := fun w _ => laidMetH Tryd.prog theLaid w) (fun _ _ _ hh h => h.of_heap hh) own started (by kernel_rfl) Tryd.func5
    (ChangeSpec.witness_shaped (enc := enc) (C := Tryd.checked) (os := os) (X := fun w _ => laidMetH Tryd.prog theLaid w) false (World.doorLaid Tryd.prog 47 os) #[idV zero, idV zero, idV zero, .bool false] 8 rfl (World.shaped_of_RefB (by kernel_rfl) (by kernel_rfl)) (by kernel_rfl) (by kernel_rfl) (by kernel_rfl) (door_met os _)) ?_
  intro W base args ds gs before hval0 hW _ _ hL _
  have hval : ∀ (j : Nat) t v, Tryd.f5.params[j]? = some t → args[j]? = some v → Value.okWide Tryd.prog W .any base t v := hval0
  have hW' := hW
  obtain ⟨p, q, hA0, hV0, rfl, hfz, hnd⟩ := hW
  have hA : DataW.TrodAll enc Tryd.prog W 0 (fun _ => true) true Tryd.f5.params.toList args.toList ds p := hA0
  have hV : DataW.TrodVars enc Tryd.prog W (fun _ => true) ["example.com/ringhop/ringhop/internal/lookup.ErrNoProgress", "example.com/ringhop/ringhop/internal/lookup.ErrNoCandidate"] gs q := hV0
  rw [Tryd.params5] at hA hval
  obtain ⟨v0, vs0, d0, ds0, p0, q0, hargs, rfl, rfl, h0, r0⟩ := trodAll_cons hA
  obtain ⟨v1, vs1, d1, ds1, p1, q1, rfl, rfl, rfl, h1, r1⟩ := trodAll_cons r0
  obtain ⟨v2, vs2, d2, ds2, p2, q2, rfl, rfl, rfl, h2, r2⟩ := trodAll_cons r1
  obtain ⟨v3, vs3, d3, ds3, p3, q3, rfl, rfl, rfl, h3, r3⟩ := trodAll_cons r2
  obtain ⟨rfl, rfl, rfl⟩ := trodAll_nil r3
  obtain rfl : args = #[v0, v1, v2, v3] := by cases args; simp_all
  obtain ⟨a0, a1, hv0, hv1⟩ := of_laid hL
  obtain ⟨rfl, rfl⟩ := hV.unique (vars_read2 enc gP tP Tryd.underlying33 hv0 trivial gC tC Tryd.underlying33 hv1 trivial _)
  obtain ⟨x0, rfl, w0⟩ := open_id (hval 0 23 v0 rfl rfl) h0
  obtain ⟨x1, rfl, w1⟩ := open_id (hval 1 23 v1 rfl rfl) h1
  obtain ⟨x2, rfl, w2⟩ := open_id (hval 2 23 v2 rfl rfl) h2
  obtain ⟨b, rfl, rfl, rfl⟩ := open_bool Tryd.underlying4 (hval 3 4 v3 rfl rfl) h3
  have lt0 : ∀ x ∈ p0, x.block < W.heap.size := by obtain ⟨m, hm⟩ := h0; exact DataW.trod_lt m _ _ _ hm
  have lt1 : ∀ x ∈ p1, x.block < W.heap.size := by obtain ⟨m, hm⟩ := h1; exact DataW.trod_lt m _ _ _ hm
  have lt2 : ∀ x ∈ p2, x.block < W.heap.size := by obtain ⟨m, hm⟩ := h2; exact DataW.trod_lt m _ _ _ hm
  clear hA0 hV0 hval0
  refine (topB_any x0 x1 x2 b W (glob0_of hv0 hv1) w0 w1 w2).mono fun e W' ⟨he, bel⟩ => ?_
  subst he
  have u0 : W'.var? Tryd.prog "example.com/ringhop/ringhop/internal/lookup.ErrNoProgress" = some #[.iface 63 (.pointer (some a0))] := var_below gP bel hv0
  have u1 : W'.var? Tryd.prog "example.com/ringhop/ringhop/internal/lookup.ErrNoCandidate" = some #[.iface 63 (.pointer (some a1))] := var_below gC bel hv1
  exact ⟨_, rfl, _, _, _, [], _, _, hW', trodAll_mk1 (shut_bool Tryd.underlying4 _), (trodAll_cons_mk (Below.trod laidOut (by kernel_rfl) (of_decide_eq_true (by kernel_rfl)) h0 bel lt0) (trodAll_cons_mk (Below.trod laidOut (by kernel_rfl) (of_decide_eq_true (by kernel_rfl)) h1 bel lt1) (trodAll_cons_mk (Below.trod laidOut (by kernel_rfl) (of_decide_eq_true (by kernel_rfl)) h2 bel lt2) (trodAll_cons_mk (shut_bool Tryd.underlying4 _) trodAll_mk0)))), vars_read2 enc gP tP Tryd.underlying33 u0 trivial gC tC Tryd.underlying33 u1 trivial _, bel.frame _, fun h => by cases h⟩

theorem over : Rows.FnResultAfterOneAnswerSaid :=
  OpenClaim.holds_of_wide 5 Tryd.f5 rfl rfl rfl rfl rfl rfl rfl ⟨rfl, rfl, rfl, rfl, rfl⟩ rfl rfl rfl rfl rfl (by kernel_rfl) Tryd.func5 (by kernel_rfl)
    (of_decide_eq_true (by kernel_rfl)) (by unfold Func.isWrapper; first | (rw [if_pos (by decide +kernel)]; kernel_rfl) | (rw [if_neg (by decide +kernel)]; exact ⟨rfl, rfl⟩))
    (fun os started H enc _ => lifted os started H enc)

theorem proved : Rows.FnResultAfterOneAnswerCardSaid :=
  Claim7.holds_tied_plain_at .later [] [.sentinel, .sentinel] true (true, "72f07d7854d2382f734662f85bbe39b6a67f16f4d2906dff8b24b2aa62c5dca1") false
    over (fun _ h => by cases h) (by kernel_rfl) (fun _ h => by cases h) fnResultAfterOneAnswer_row_tie rfl ⟨rfl, rfl⟩ (by kernel_rfl) rfl
    (fun f fn hf hfn => by
      obtain rfl : f = 5 := Option.some.inj ((show Tryd.prog.funcNamed "example.com/ringhop/ringhop/zzlaws_internal_lookup_b1.FnResultAfterOneAnswer" = some 5 by kernel_rfl).symm.trans hf) |>.symm
      obtain rfl : fn = Tryd.f5 := (Option.some.inj (Tryd.func5.symm.trans hfn)).symm
      exact ⟨by kernel_rfl, fun j t ht => by
        rw [Tryd.params5] at ht
        have h23 : t = 23 ∨ t = 4 := by
          rcases j with _ | _ | _ | _ | j
          · left; simpa using ht.symm
          · left; simpa using ht.symm
          · left; simpa using ht.symm
          · right; simpa using ht.symm
          · simp at ht
        rcases h23 with rfl | rfl
        · exact (show Tryd.prog.wantsStandIn 23 = false by kernel_rfl)
        · exact (show Tryd.prog.wantsStandIn 4 = false by kernel_rfl)⟩)
    (by kernel_rfl)
#print axioms proved
end Go.Proofs.Qxb6609340aDoor.fnResultAfterOneAnswer
