/-
  'Rows.FnResultOfApproachingChainCardSaid': the row, then the tied card by the builder's one call.
-/
import Derived.Test.Qxb6609340aDoorSlices
import Derived.Test.Qxb6609340aDoorTopD
import Derived.Test.Qxb6609340aDoorTie
import Derived.Test.Qxb6609340aDoorCards
import Derived.SevenTiedAt
namespace Go.Proofs.Qxb6609340aDoor.fnResultOfApproachingChain
open Go.ChangeShapes Go.WideShapes Go.ChangeAt Go.RowKit
set_option linter.unusedVariables false

theorem topD_any (start key owner : Id) (a : Option Addr) (c : Nat) (hops : List Id) (w : World) (hg : Glob0 w) (ws : start.wf) (wk : key.wf) (wo : owner.wf) (wn : ∀ y, y ∈ hops → y.wf)
    (hI : Ids w w.heap.size (.slice a hops.length c) hops) :
    Calls Tryd.prog 6 #[idV start, idV key, .slice a hops.length c, idV owner] w fun e w' => TopPost w e w' := by
  by_cases h : hops.length ≤ 4096
  · exact topD_main start key owner a c hops w hg ws wk wo wn h hI
  · exact topD_early start key owner a _ c w h

set_option maxRecDepth 100000 in
theorem lifted (os : Os) (started : os.Started) (H : Type) (enc : TypeId × Value → H) :
    ReturnsInHanded {} Tryd.checked os 6 .any (fun w args => (Rows.fnResultOfApproachingChainSpec.pre enc Tryd.prog Tryd.f6 [] false w args ∧ laidMetH Tryd.prog theLaid w) ∧ sizedMet enc Tryd.prog Tryd.f6 (OpenSpec.ofChange Rows.fnResultOfApproachingChainSpec) false w args)
      (Rows.fnResultOfApproachingChainSpec.post enc Tryd.prog Tryd.f6 false true false false) := by
  refine returnsInHanded_of_change_and (C := Tryd.checked) (X := fun w _ => laidMetH Tryd.prog theLaid w) (fun _ _ _ hh h => h.of_heap hh) own started (by kernel_rfl) Tryd.func6
    (ChangeSpec.witness_shaped (enc := enc) (C := Tryd.checked) (os := os) (X := fun w _ => laidMetH Tryd.prog theLaid w) false (World.doorLaid Tryd.prog 47 os) #[idV zero, idV zero, .slice none 0 0, idV zero] 8 rfl (World.shaped_of_RefB (by kernel_rfl) (by kernel_rfl)) (by kernel_rfl) (by kernel_rfl) (by kernel_rfl) (door_met os _)) ?_
  intro W base args ds gs before hval0 hW _ _ hL _
  have hval : ∀ (j : Nat) t v, Tryd.f6.params[j]? = some t → args[j]? = some v → Value.okWide Tryd.prog W .any base t v := hval0
  have hW' := hW
  obtain ⟨p, q, hA0, hV0, rfl, hfz, hnd⟩ := hW
  have hA : DataW.TrodAll enc Tryd.prog W 0 (fun _ => true) true Tryd.f6.params.toList args.toList ds p := hA0
  have hV : DataW.TrodVars enc Tryd.prog W (fun _ => true) ["example.com/ringhop/ringhop/internal/lookup.ErrNoProgress", "example.com/ringhop/ringhop/internal/lookup.ErrNoCandidate"] gs q := hV0
  rw [Tryd.params6] at hA hval
  obtain ⟨v0, vs0, d0, ds0, p0, q0, hargs, rfl, rfl, h0, r0⟩ := trodAll_cons hA
  obtain ⟨v1, vs1, d1, ds1, p1, q1, rfl, rfl, rfl, h1, r1⟩ := trodAll_cons r0
  obtain ⟨v2, vs2, d2, ds2, p2, q2, rfl, rfl, rfl, h2, r2⟩ := trodAll_cons r1
  obtain ⟨v3, vs3, d3, ds3, p3, q3, rfl, rfl, rfl, h3, r3⟩ := trodAll_cons r2
  obtain ⟨rfl, rfl, rfl⟩ := trodAll_nil r3
  obtain rfl : args = #[v0, v1, v2, v3] := by cases args; simp_all
  obtain ⟨a0, a1, hv0, hv1⟩ := of_laid hL
  obtain ⟨rfl, rfl⟩ := hV.unique (vars_read2 enc gP tP Tryd.underlying33 hv0 trivial gC tC Tryd.underlying33 hv1 trivial _)
  obtain ⟨x0, rfl, w0⟩ := open_id (hval 0 23 v0 rfl rfl) h0
  obtain ⟨x1, rfl, w1⟩ := open_id (hval 1 23 v1 rfl rfl) h1
  obtain ⟨a2, len2, cap2, rfl⟩ := okWide_slice Tryd.underlying37 (hval 2 37 v2 rfl rfl)
  obtain ⟨x3, rfl, w3⟩ := open_id (hval 3 23 v3 rfl rfl) h3
  have lt0 : ∀ x ∈ p0, x.block < W.heap.size := by obtain ⟨m, hm⟩ := h0; exact DataW.trod_lt m _ _ _ hm
  have lt1 : ∀ x ∈ p1, x.block < W.heap.size := by obtain ⟨m, hm⟩ := h1; exact DataW.trod_lt m _ _ _ hm
  have lt2 : ∀ x ∈ p2, x.block < W.heap.size := by obtain ⟨m, hm⟩ := h2; exact DataW.trod_lt m _ _ _ hm
  have lt3 : ∀ x ∈ p3, x.block < W.heap.size := by obtain ⟨m, hm⟩ := h3; exact DataW.trod_lt m _ _ _ hm
  obtain ⟨hops, hl2, hI, hwf⟩ : ∃ ids : List Id, ids.length = len2 ∧ Ids W W.heap.size (.slice a2 len2 cap2) ids ∧ ∀ y, y ∈ ids → y.wf := by
    obtain ⟨fuel, hf⟩ := h2
    exact open_ids hf
  clear hA0 hV0 hval0
  subst hl2
  refine (topD_any x0 x1 x3 a2 cap2 hops W (glob0_of hv0 hv1) w0 w1 w3 hwf hI).mono fun e W' ⟨he, bel⟩ => ?_
  subst he
  have u0 : W'.var? Tryd.prog "example.com/ringhop/ringhop/internal/lookup.ErrNoProgress" = some #[.iface 63 (.pointer (some a0))] := var_below gP bel hv0
  have u1 : W'.var? Tryd.prog "example.com/ringhop/ringhop/internal/lookup.ErrNoCandidate" = some #[.iface 63 (.pointer (some a1))] := var_below gC bel hv1
  exact ⟨_, rfl, _, _, _, [], _, _, hW', trodAll_mk1 (shut_bool Tryd.underlying4 _), (trodAll_cons_mk (Below.trod laidOut (by kernel_rfl) (of_decide_eq_true (by kernel_rfl)) h0 bel lt0) (trodAll_cons_mk (Below.trod laidOut (by kernel_rfl) (of_decide_eq_true (by kernel_rfl)) h1 bel lt1) (trodAll_cons_mk (Below.trod laidOut (by kernel_rfl) (of_decide_eq_true (by kernel_rfl)) h2 bel lt2) (trodAll_cons_mk (Below.trod laidOut (by kernel_rfl) (of_decide_eq_true (by kernel_rfl)) h3 bel lt3) trodAll_mk0)))), vars_read2 enc gP tP Tryd.underlying33 u0 trivial gC tC Tryd.underlying33 u1 trivial _, bel.frame _, fun h => by cases h⟩

theorem over : Rows.FnResultOfApproachingChainSaid :=
  OpenClaim.holds_of_wide 6 Tryd.f6 rfl rfl rfl rfl rfl rfl rfl ⟨rfl, rfl, rfl, rfl, rfl⟩ rfl rfl rfl rfl rfl (by kernel_rfl) Tryd.func6 (by kernel_rfl)
    (of_decide_eq_true (by kernel_rfl)) (by unfold Func.isWrapper; first | (rw [if_pos (by decide +kernel)]; kernel_rfl) | (rw [if_neg (by decide +kernel)]; exact ⟨rfl, rfl⟩))
    (fun os started H enc _ => lifted os started H enc)

theorem proved : Rows.FnResultOfApproachingChainCardSaid :=
  Claim7.holds_tied_plain_at .later [] [.sentinel, .sentinel] true (true, "72f07d7854d2382f734662f85bbe39b6a67f16f4d2906dff8b24b2aa62c5dca1") false
    over (fun _ h => by cases h) (by kernel_rfl) (fun _ h => by cases h) fnResultOfApproachingChain_row_tie rfl ⟨rfl, rfl⟩ (by kernel_rfl) rfl
    (fun f fn hf hfn => by
      obtain rfl : f = 6 := Option.some.inj ((show Tryd.prog.funcNamed "example.com/ringhop/ringhop/zzlaws_internal_lookup_b1.FnResultOfApproachingChain" = some 6 by kernel_rfl).symm.trans hf) |>.symm
      obtain rfl : fn = Tryd.f6 := (Option.some.inj (Tryd.func6.symm.trans hfn)).symm
      exact ⟨by kernel_rfl, fun j t ht => by
        rw [Tryd.params6] at ht
        have h23 : t = 23 ∨ t = 37 := by
          rcases j with _ | _ | _ | _ | j
          · left; simpa using ht.symm
          · left; simpa using ht.symm
          · right; simpa using ht.symm
          · left; simpa using ht.symm
          · simp at ht
        rcases h23 with rfl | rfl
        · exact (show Tryd.prog.wantsStandIn 23 = false by kernel_rfl)
        · exact (show Tryd.prog.wantsStandIn 37 = false by kernel_rfl)⟩)
    (by kernel_rfl)
#print axioms proved
end Go.Proofs.Qxb6609340aDoor.fnResultOfApproachingChain
