import Derived.Test.Qxb6609340aDoorTopA
import Derived.Test.Qxb6609340aDoorLive
import Derived.Deep.RegionHeld3
namespace Go.Proofs.Qxb6609340aDoor
open Go.ChangeShapes Go.WideShapes Go.ChangeAt Go.RowKit
set_option linter.unusedVariables false
set_option linter.unusedSimpArgs false

/-- Two boxes laid one behind the other. -/
theorem boxes2 (w : World) (x y : Id) (t : TypeId) : ∃ w2, w2 = (w.alloc (box x t)).alloc (box y t) ∧ IdAt w2 w.heap.size 0 x ∧ IdAt w2 (w.heap.size + 1) 0 y ∧ w2.heap.size = w.heap.size + 1 + 1 ∧ Below w.heap.size w w2 := by
  have e1 : (w.alloc (box x t)).heap.size = w.heap.size + 1 := by simp
  refine ⟨_, rfl, (idAt_new w x t).alloc (by simp) _, ?_, by simp, ((Below.refl _ _).alloc (Nat.le_refl _) _).alloc (by omega) _⟩
  have h := idAt_new (w.alloc (box x t)) y t
  rwa [e1] at h

theorem words_zeroC (w : World) : Calls Tryd.prog 10 #[.agg #[.int .u64 0, .int .u64 0, .int .u64 0, .int .u64 0]] w fun e w' => e = .returned (.agg #[.int .u64 0, .int .u64 0, .int .u64 0, .int .u64 0]) ∧ Below w.heap.size w w' := words_any zero w
theorem IdAt.keep {w w' : World} {b off : Nat} {x : Id} (h : IdAt w b off x) (hb : w'.heap[b]? = w.heap[b]?) : IdAt w' b off x := by
  intro k hk
  rw [World.cell?_of_block (w := w) (a := ⟨b, off + k, none⟩) hb]
  exact h k hk

/-- What the law knows of the walk at the head of a round. -/
def Cond (over : Bool) (s : St) (P A : List Id) (k : Nat) : Prop :=
  (over = true ∧ (s.done || s.bad) = true) ∨ (over = false ∧ ∃ p x a, s = ⟨p ++ [x], a, false, false⟩ ∧ P = p ++ [x] ∧ A = a ∧ p.length ≤ k ∧ a.length ≤ 32 ∧ ∀ y, y ∈ p ++ [x] → y.wf)

/-- The law's early ways. -/
theorem topC_early (start key : Id) (a b : Option Addr) (n c m c' : Nat) (w : World) (h : ¬ (n ≤ 4096 ∧ m ≤ 4096)) :
    Calls Tryd.prog 4 #[idV start, idV key, .slice a n c, .slice b m c'] w fun e w' => TopPost w e w' := by
  go_enter Tryd.func4, Tryd.ntmps4
  go_wp2_with fail
  obtain ⟨w2, hw2, b1, b2, hs2, hb2⟩ := boxes2 w start key 23
  rw [← hw2]
  have HB2 := hide hb2
  clear hw2 b1 b2 hb2
  refine (bytes13_any start key a b n c m c' w2).mono ?_
  rintro e w3 ⟨⟨r, rfl, hr⟩, hb3⟩
  have HB3 := hide (HB2.out.trans (hb3.mono HB2.out.size))
  clear hb3 HB2
  cases r
  · go_wp2
    go_ret
    exact ⟨rfl, HB3.out⟩
  · clear hr
    by_cases hn : n ≤ 4096
    · have hm : ¬ m ≤ 4096 := fun hm => h ⟨hn, hm⟩
      clear h
      go_wp2
      go_ret
      exact ⟨rfl, HB3.out⟩
    · clear h
      go_wp2
      go_ret
      exact ⟨rfl, HB3.out⟩

set_option maxRecDepth 100000 in
set_option maxHeartbeats 3200000 in
theorem topC_main (start key : Id) (a b : Option Addr) (c c' : Nat) (nexts : List Id) (dones : List Bool) (w : World) (hg : Glob0 w) (ws : start.wf) (wk : key.wf) (wn : ∀ y, y ∈ nexts → y.wf) (hn : nexts.length ≤ 4096) (hm : dones.length ≤ 4096)
    (hI : Ids w w.heap.size (.slice a nexts.length c) nexts) (hB : Bools w w.heap.size (.slice b dones.length c') dones) :
    Calls Tryd.prog 4 #[idV start, idV key, .slice a nexts.length c, .slice b dones.length c'] w fun e w' => TopPost w e w' := by
  have HX := hide (And.intro ws (And.intro wk wn))
  have HG := hide hg
  have HI := hide hI
  have HJ := hide hB
  clear ws wk wn hg hI hB
  go_enter Tryd.func4, Tryd.ntmps4
  go_wp2_with fail
  obtain ⟨w2, hw2, b1, b2, hs2, hb2⟩ := boxes2 w start key 23
  rw [← hw2]
  have B1 := hide b1
  have B2 := hide b2
  have HB2 := hide hb2
  clear hw2 b1 b2 hb2
  refine (bytes13_any start key a b nexts.length c dones.length c' w2).mono ?_
  rintro e w3 ⟨⟨r, rfl, hr⟩, hb3⟩
  obtain rfl : r = true := hr hn hm
  have HB3 := hide (HB2.out.trans (hb3.mono HB2.out.size))
  have C1 := hide (B1.out.later hb3 (by omega))
  have C2 := hide (B2.out.later hb3 (by omega))
  have hs3 : w.heap.size + 1 < w3.heap.size := by have := hb3.size; omega
  clear hb3 HB2 hr B1 B2 hs2
  go_upto_region 7 with fail
  go_cut [9] from 24 (fun s wx => ∃ bw F, s = .pointer (some ⟨bw, 0, none⟩) ∧ Hid (Walk wx F bw key [start] [] false false) ∧ Hid (Below w3.heap.size w3 wx) ∧ Hid (∀ k, k < w3.heap.size → ¬ F k))
  case first =>
    have MK := hide (show ∀ W, Below w3.heap.size w3 W → (Below w3.heap.size w3 W ∧ (W.cell? ⟨w.heap.size, 0, none⟩ = some (.int .u64 start.a) ∧ W.cell? ⟨w.heap.size, 1, none⟩ = some (.int .u64 start.b) ∧ W.cell? ⟨w.heap.size, 2, none⟩ = some (.int .u64 start.c) ∧ W.cell? ⟨w.heap.size, 3, none⟩ = some (.int .u64 start.d)) ∧ (W.cell? ⟨w.heap.size + 1, 0, none⟩ = some (.int .u64 key.a) ∧ W.cell? ⟨w.heap.size + 1, 1, none⟩ = some (.int .u64 key.b) ∧ W.cell? ⟨w.heap.size + 1, 2, none⟩ = some (.int .u64 key.c) ∧ W.cell? ⟨w.heap.size + 1, 3, none⟩ = some (.int .u64 key.d))) from fun W hW => ⟨hW, (C1.out.later hW (by omega)).cells0, (C2.out.later hW (by omega)).cells0⟩)
    refine wp_region_held_drew (S := fun W => Below w3.heap.size w3 W ∧ (W.cell? ⟨w.heap.size, 0, none⟩ = some (.int .u64 start.a) ∧ W.cell? ⟨w.heap.size, 1, none⟩ = some (.int .u64 start.b) ∧ W.cell? ⟨w.heap.size, 2, none⟩ = some (.int .u64 start.c) ∧ W.cell? ⟨w.heap.size, 3, none⟩ = some (.int .u64 start.d)) ∧ (W.cell? ⟨w.heap.size + 1, 0, none⟩ = some (.int .u64 key.a) ∧ W.cell? ⟨w.heap.size + 1, 1, none⟩ = some (.int .u64 key.b) ∧ W.cell? ⟨w.heap.size + 1, 2, none⟩ = some (.int .u64 key.c) ∧ W.cell? ⟨w.heap.size + 1, 3, none⟩ = some (.int .u64 key.d))) (by kernel_rfl) ?_ (fun hHeld => ?_)
    · exact MK.out _ (below_drew _)
    refine wpAnyH_take (i := 0) (v := (idV start)) rfl (by kernel_rfl) (by kernel_rfl) (by kernel_rfl) (fun _ _ _ h => h) (Or.inl ⟨by rfl, ?_⟩) hHeld ?_
    · intro w hSw; try dsimp only at hSw
      go_simp
    try simp only [Act.put, List.getElem_toArray, List.getElem_cons_zero, List.getElem_cons_succ, List.setIfInBounds_toArray, List.set_cons_zero, List.set_cons_succ]
    refine wpAnyH_take (i := 2) (v := (idV key)) rfl (by kernel_rfl) (by kernel_rfl) (by kernel_rfl) (fun _ _ _ h => h) (Or.inl ⟨by rfl, ?_⟩) hHeld ?_
    · intro w hSw; try dsimp only at hSw
      go_simp
    try simp only [Act.put, List.getElem_toArray, List.getElem_cons_zero, List.getElem_cons_succ, List.setIfInBounds_toArray, List.set_cons_zero, List.set_cons_succ]
    refine wpAnyH_ready (rs := [1]) (by kernel_rfl) (by simp) ?_
    refine AllReadyH.cons rfl (fun K hK => ?_) AllReadyH.nil
    go_simp
    refine (newID_any start _).mono ?_
    rintro e w4 ⟨rfl, hb4⟩
    refine hK.out _ _ ?_ (fun hHeld => ?_)
    · exact MK.out _ ((below_drew w3).trans hb4)
    clear hK K
    try simp only [Act.put, List.getElem_toArray, List.getElem_cons_zero, List.getElem_cons_succ, List.setIfInBounds_toArray, List.set_cons_zero, List.set_cons_succ]
    refine wpAnyH_ready (rs := [3]) (by kernel_rfl) (by simp) ?_
    refine AllReadyH.cons rfl (fun K hK => ?_) AllReadyH.nil
    go_simp
    refine (newID_any key _).mono ?_
    rintro e w5 ⟨rfl, hb5⟩
    refine hK.out _ _ ?_ (fun hHeld => ?_)
    · exact MK.out _ (((below_drew w3).trans hb4).trans (hb5.mono ((below_drew w3).trans hb4).size))
    clear hK K
    try simp only [Act.put, List.getElem_toArray, List.getElem_cons_zero, List.getElem_cons_succ, List.setIfInBounds_toArray, List.set_cons_zero, List.set_cons_succ]
    have h5 : Below w3.heap.size w3 w5 := ((below_drew w3).trans hb4).trans (hb5.mono ((below_drew w3).trans hb4).size)
    refine wpAnyH_ready (rs := [4]) (by kernel_rfl) (by simp) ?_
    refine AllReadyH.cons rfl (fun K hK => ?_) AllReadyH.nil
    go_simp
    refine (beginAt_any start key _).mono ?_
    rintro e w6 ⟨bw, F, rfl, hw6, hb6, hF6⟩
    refine hK.out _ _ ?_ (fun hHeld => ?_)
    · exact MK.out _ (h5.trans (hb6.mono h5.size))
    clear hK K
    try simp only [Act.put, List.getElem_toArray, List.getElem_cons_zero, List.getElem_cons_succ, List.setIfInBounds_toArray, List.set_cons_zero, List.set_cons_succ]
    refine wpAnyH_take (i := 5) (v := (.pointer (some ⟨bw, 0, none⟩))) rfl (by kernel_rfl) (by kernel_rfl) (by kernel_rfl) (fun _ _ _ h => h) (Or.inl ⟨by rfl, ?_⟩) hHeld ?_
    · intro w hSw; try dsimp only at hSw
      go_simp
    try simp only [Act.put, List.getElem_toArray, List.getElem_cons_zero, List.getElem_cons_succ, List.setIfInBounds_toArray, List.set_cons_zero, List.set_cons_succ]
    refine wpAnyH_done (by kernel_rfl) ?_ _
    go_wp2_with fail
    go_meet
    exact ⟨bw, F, rfl, hide hw6, hide (h5.trans (hb6.mono h5.size)), hide (fun k hk => hF6 k (Nat.lt_of_lt_of_le hk h5.size))⟩
  case rest =>
  obtain ⟨bw, F, rfl, hw4, hb4, hF4⟩ := hcut
  rename World => w4
  have G4 := hide (show Glob w4 F from by
    obtain ⟨g1, ⟨v0, e0, c0⟩, v1, e1, c1⟩ := HG.out
    have hb := HB3.out.trans (hb4.out.mono HB3.out.size)
    exact ⟨hF4.out 0 (by omega), hF4.out 1 (by omega), Nat.lt_of_lt_of_le g1 hb.size, ⟨v0, e0, (hb.cell (p := ⟨0, 0, none⟩) (by simp; omega)).trans c0⟩, v1, e1, (hb.cell (p := ⟨1, 0, none⟩) (by simp; omega)).trans c1⟩)
  obtain ⟨s0, s1, s2, s3⟩ := (C1.out.later hb4.out (by omega)).cells0
  have hs4 : w.heap.size < w4.heap.size := by have := hb4.out.size; omega
  go_wp2_with fail
  obtain ⟨w5, hw5⟩ : ∃ z, z = w4.alloc (.cells #[.int .u64 0, .int .u64 0, .int .u64 0, .int .u64 0] 23) := ⟨_, rfl⟩
  rw [← hw5]
  obtain ⟨w6, hw6⟩ : ∃ z, z = w5.alloc (box start 23) := ⟨_, rfl⟩
  rw [← hw6]
  obtain ⟨F0, hF0⟩ : ∃ z, z = fun k => F k ∧ k < w4.heap.size := ⟨_, rfl⟩
  have hs5 : w5.heap.size = w4.heap.size + 1 := by rw [hw5]; simp
  have b45 : Below w4.heap.size w4 w5 := by rw [hw5]; exact (Below.refl _ _).alloc (Nat.le_refl _) _
  have b56 : Below w5.heap.size w5 w6 := by rw [hw6]; exact (Below.refl _ _).alloc (Nat.le_refl _) _
  have ZB := hide (show IdAt w5 w4.heap.size 0 zero by rw [hw5]; exact idAt_new w4 zero 23)
  have hz : ¬ F0 w4.heap.size := by rw [hF0]; rintro ⟨_, h⟩; omega
  have hF5 := hide (show ∀ k, k < w3.heap.size → ¬ F0 k by rw [hF0]; intro k hk h; exact hF4.out k hk h.1)
  have HB5 := hide (hb4.out.trans (b45.mono hb4.out.size))
  have h25 : 2 ≤ w5.heap.size := by have := G4.out.2.2.1; omega
  have LV := hide (show Live w5 F0 bw key w6 (.slice (some ⟨w4.heap.size + 1, 0, none⟩) 1 1) (.slice none 0 0) ⟨[start], [], false, false⟩ [start] [] from by
    have W4 : Walk w4 F0 bw key [start] [] false false := by rw [hF0]; exact hw4.out.shrink
    have GG : Glob w4 F0 := by rw [hF0]; exact G4.out.step (Step.shrink (Step.of_below F (Below.refl _ w4)))
    have b46 : Below w4.heap.size w4 w6 := b45.trans (b56.mono b45.size)
    refine ⟨F0, Step.of_below F0 b56, GG.step (Step.of_below F0 b46), fun j hj => ?_, W4.below b46, ⟨?_, fun g hg => ?_⟩, ⟨Row.nil _, fun g hg => by simp [Value.ownBlock] at hg⟩, fun g hg => by simp [Value.ownBlock]⟩
    · rw [hF0] at hj
      exact Nat.lt_of_lt_of_le hj.2 b46.size
    · refine .inr ⟨w4.heap.size + 1, 1, rfl, by rw [hw6]; simp; omega, by simp, by unfold maxLen; omega, fun j hj => ?_, fun k x hk => ?_⟩
      · rw [← hs5, hw6]
        match j, hj with
        | 0, _ => exact ⟨by go_simp, by go_simp⟩
        | 1, _ => exact ⟨by go_simp, by go_simp⟩
        | 2, _ => exact ⟨by go_simp, by go_simp⟩
        | 3, _ => exact ⟨by go_simp, by go_simp⟩
      · rw [← hs5, hw6]
        match k, hk with
        | 0, hk => simp at hk; subst hk; exact idAt_new w5 start 23
        | k + 1, hk => simp at hk
    · simp [Value.ownBlock] at hg
      subst hg
      exact ⟨by omega, by rw [hF0]; rintro ⟨_, h⟩; omega⟩)
  have hs3' : w3.heap.size ≤ w4.heap.size := hb4.out.size
  clear hw5 hw6 hF0 b45 b56 hw4 G4 hF4 hb4 s0 s1 s2 s3 hs4
  go_loopw [11, 12, 13, 14] (fun st av ov i wr => ∃ (k : Nat) (over : Bool) (s : St) (P A : List Id), k ≤ nexts.length ∧ ov = .bool over ∧ i = .int .i64 k ∧ Hid (Live w5 F0 bw key wr st av s P A) ∧ Hid (Cond over s P A k)) (fun _ _ _ i _ => nexts.length - (intOf i).toNat)
  case atStart => exact ⟨0, false, _, _, _, Nat.zero_le _, rfl, rfl, LV, hide (.inr ⟨rfl, [], start, [], rfl, rfl, rfl, Nat.zero_le _, by simp, fun y hy => by simp at hy; rw [hy]; exact HX.out.1⟩)⟩
  case round =>
    clear LV
    rename World => wr
    obtain ⟨k, over, s, P, A, hk, rfl, rfl, HL, HC⟩ := hrel
    rcases HC.out with ⟨rfl, hov⟩ | ⟨rfl, p, x, av0, rfl, rfl, rfl, hpk, hav, hwf⟩
    · by_cases hlt : k < nexts.length
      · have hlt' := hlt
        obtain ⟨F1, S1, G1, L1, W1, O1, O2, D1⟩ := HL.out
        have HW := hide W1
        have HO := hide hov
        have SZ := HL.out.size
        have ZR := hide (show IdAt wr w4.heap.size 0 zero from ZB.out.keep (HL.out.keeps (by omega) hz))
        have HU := hide (HB3.out.trans ((HL.out.under HB5.out hF5.out).mono (by omega)))
        clear S1 G1 L1 W1 O1 O2 D1 HL HC hov
        go_wp2_with fail
        refine (next_over F1 bw key s.path s.avoid s.done s.bad wr HW.out HO.out).mono ?_
        rintro e w7 ⟨rfl, hb7⟩
        have SZ7 := hb7.size
        have Z7 := hide (ZR.out.later hb7 (by omega))
        go_upto_region 42 with fail
        obtain ⟨w8, hw8⟩ : ∃ z, z = w7.alloc (box zero 27) := ⟨_, rfl⟩
        rw [← hw8]
        have bbw8 : Below w7.heap.size w7 w8 := by rw [hw8]; exact (Below.refl _ _).alloc (Nat.le_refl _) _
        have hsw8 : w7.heap.size < w8.heap.size := by rw [hw8]; simp
        have N8 := hide (show IdAt w8 w7.heap.size 0 zero by rw [hw8]; exact idAt_new w7 zero 27)
        have Z8 := hide (Z7.out.later bbw8 (by omega))
        have HU8 := hide (HU.out.trans ((hb7.trans (bbw8.mono hb7.size)).mono (by omega)))
        clear hw8 Z7 ZR HU bbw8 hb7 HW HO
        have t : same4 0 0 0 0 0 0 0 0 = true := by rfl
        have MK := hide (show ∀ W, Below w8.heap.size w8 W → (Below w8.heap.size w8 W ∧ (W.cell? ⟨w7.heap.size, 0, none⟩ = some (.int .u64 0) ∧ W.cell? ⟨w7.heap.size, 1, none⟩ = some (.int .u64 0) ∧ W.cell? ⟨w7.heap.size, 2, none⟩ = some (.int .u64 0) ∧ W.cell? ⟨w7.heap.size, 3, none⟩ = some (.int .u64 0)) ∧ (W.cell? ⟨w4.heap.size, 0, none⟩ = some (.int .u64 0) ∧ W.cell? ⟨w4.heap.size, 1, none⟩ = some (.int .u64 0) ∧ W.cell? ⟨w4.heap.size, 2, none⟩ = some (.int .u64 0) ∧ W.cell? ⟨w4.heap.size, 3, none⟩ = some (.int .u64 0))) from fun W hW => ⟨hW, (N8.out.later hW (by omega)).cells0, (Z8.out.later hW (by omega)).cells0⟩)
        refine wp_region_held_drew (S := fun W => Below w8.heap.size w8 W ∧ (W.cell? ⟨w7.heap.size, 0, none⟩ = some (.int .u64 0) ∧ W.cell? ⟨w7.heap.size, 1, none⟩ = some (.int .u64 0) ∧ W.cell? ⟨w7.heap.size, 2, none⟩ = some (.int .u64 0) ∧ W.cell? ⟨w7.heap.size, 3, none⟩ = some (.int .u64 0)) ∧ (W.cell? ⟨w4.heap.size, 0, none⟩ = some (.int .u64 0) ∧ W.cell? ⟨w4.heap.size, 1, none⟩ = some (.int .u64 0) ∧ W.cell? ⟨w4.heap.size, 2, none⟩ = some (.int .u64 0) ∧ W.cell? ⟨w4.heap.size, 3, none⟩ = some (.int .u64 0))) (by kernel_rfl) ?_ (fun hHeld => ?_)
        · exact MK.out _ (below_drew _)
        refine wpAnyH_take (i := 0) (v := (.bool false)) rfl (by kernel_rfl) (by kernel_rfl) (by kernel_rfl) (fun _ _ _ h => h) (Or.inl ⟨by rfl, ?_⟩) hHeld ?_
        · intro w hSw; try dsimp only at hSw
          go_simp
        try simp only [Act.put, List.getElem_toArray, List.getElem_cons_zero, List.getElem_cons_succ, List.setIfInBounds_toArray, List.set_cons_zero, List.set_cons_succ]
        refine wpAnyH_take (i := 1) (v := (.bool true)) rfl (by kernel_rfl) (by kernel_rfl) (by kernel_rfl) (fun _ _ _ h => h) (Or.inl ⟨by rfl, ?_⟩) hHeld ?_
        · intro w hSw; try dsimp only at hSw
          go_simp
        try simp only [Act.put, List.getElem_toArray, List.getElem_cons_zero, List.getElem_cons_succ, List.setIfInBounds_toArray, List.set_cons_zero, List.set_cons_succ]
        refine wpAnyH_take (i := 2) (v := (.bool true)) rfl (by kernel_rfl) (by kernel_rfl) (by kernel_rfl) (fun _ _ _ h => h) (Or.inl ⟨by rfl, ?_⟩) hHeld ?_
        · intro w hSw; try dsimp only at hSw
          go_simp
        try simp only [Act.put, List.getElem_toArray, List.getElem_cons_zero, List.getElem_cons_succ, List.setIfInBounds_toArray, List.set_cons_zero, List.set_cons_succ]
        refine wpAnyH_take (i := 3) (v := (.agg #[.int .u64 0, .int .u64 0, .int .u64 0, .int .u64 0])) rfl (by kernel_rfl) (by kernel_rfl) (by kernel_rfl) (fun _ _ _ h => h) (Or.inl ⟨by rfl, ?_⟩) hHeld ?_
        · intro w hSw; try dsimp only at hSw
          go_simp
        try simp only [Act.put, List.getElem_toArray, List.getElem_cons_zero, List.getElem_cons_succ, List.setIfInBounds_toArray, List.set_cons_zero, List.set_cons_succ]
        refine wpAnyH_take (i := 5) (v := (.agg #[.int .u64 0, .int .u64 0, .int .u64 0, .int .u64 0])) rfl (by kernel_rfl) (by kernel_rfl) (by kernel_rfl) (fun _ _ _ h => h) (Or.inl ⟨by rfl, ?_⟩) hHeld ?_
        · intro w hSw; try dsimp only at hSw
          go_simp
        try simp only [Act.put, List.getElem_toArray, List.getElem_cons_zero, List.getElem_cons_succ, List.setIfInBounds_toArray, List.set_cons_zero, List.set_cons_succ]
        refine wpAnyH_ready (rs := [4]) (by kernel_rfl) (by simp) ?_
        refine AllReadyH.cons rfl (fun K hK => ?_) AllReadyH.nil
        go_simp
        refine (words_zeroC _).mono ?_
        rintro e w9 ⟨rfl, hb9⟩
        refine hK.out _ _ ?_ (fun hHeld => ?_)
        · exact MK.out _ ((below_drew w8).trans hb9)
        clear hK K
        try simp only [Act.put, List.getElem_toArray, List.getElem_cons_zero, List.getElem_cons_succ, List.setIfInBounds_toArray, List.set_cons_zero, List.set_cons_succ]
        refine wpAnyH_take (i := 6) (v := (.bool true)) rfl (by kernel_rfl) (by kernel_rfl) (by kernel_rfl) (fun _ _ _ h => h) (Or.inl ⟨by rfl, ?_⟩) hHeld ?_
        · intro w hSw; try dsimp only at hSw
          go_simp
        try simp only [Act.put, List.getElem_toArray, List.getElem_cons_zero, List.getElem_cons_succ, List.setIfInBounds_toArray, List.set_cons_zero, List.set_cons_succ]
        refine wpAnyH_take (i := 7) (v := (.bool true)) rfl (by kernel_rfl) (by kernel_rfl) (by kernel_rfl) (fun _ _ _ h => h) (Or.inl ⟨by rfl, ?_⟩) hHeld ?_
        · intro w hSw; try dsimp only at hSw
          go_simp
        try simp only [Act.put, List.getElem_toArray, List.getElem_cons_zero, List.getElem_cons_succ, List.setIfInBounds_toArray, List.set_cons_zero, List.set_cons_succ]
        refine wpAnyH_take (i := 8) (v := (.bool true)) rfl (by kernel_rfl) (by kernel_rfl) (by kernel_rfl) (fun _ _ _ h => h) (Or.inl ⟨by rfl, ?_⟩) hHeld ?_
        · intro w hSw; try dsimp only at hSw
          go_simp
        try simp only [Act.put, List.getElem_toArray, List.getElem_cons_zero, List.getElem_cons_succ, List.setIfInBounds_toArray, List.set_cons_zero, List.set_cons_succ]
        refine wpAnyH_done (by kernel_rfl) ?_ _
        go_wp2
        go_ret
        exact ⟨rfl, HU8.out.trans (((below_drew w8).trans hb9).mono HU8.out.size)⟩
      · have hlt' := hlt
        obtain ⟨F1, S1, G1, L1, W1, O1, O2, D1⟩ := HL.out
        have HW := hide W1
        have HO := hide hov
        have SZ := HL.out.size
        have ZR := hide (show IdAt wr w4.heap.size 0 zero from ZB.out.keep (HL.out.keeps (by omega) hz))
        have HU := hide (HB3.out.trans ((HL.out.under HB5.out hF5.out).mono (by omega)))
        clear S1 G1 L1 W1 O1 O2 D1 HL HC hov
        go_wp2_with fail
        refine (next_over F1 bw key s.path s.avoid s.done s.bad wr HW.out HO.out).mono ?_
        rintro e w7 ⟨rfl, hb7⟩
        have SZ7 := hb7.size
        have Z7 := hide (ZR.out.later hb7 (by omega))
        go_upto_region 42 with fail
        obtain ⟨w8, hw8⟩ : ∃ z, z = w7.alloc (box zero 27) := ⟨_, rfl⟩
        rw [← hw8]
        have bbw8 : Below w7.heap.size w7 w8 := by rw [hw8]; exact (Below.refl _ _).alloc (Nat.le_refl _) _
        have hsw8 : w7.heap.size < w8.heap.size := by rw [hw8]; simp
        have N8 := hide (show IdAt w8 w7.heap.size 0 zero by rw [hw8]; exact idAt_new w7 zero 27)
        have Z8 := hide (Z7.out.later bbw8 (by omega))
        have HU8 := hide (HU.out.trans ((hb7.trans (bbw8.mono hb7.size)).mono (by omega)))
        clear hw8 Z7 ZR HU bbw8 hb7 HW HO
        have t : same4 0 0 0 0 0 0 0 0 = true := by rfl
        have MK := hide (show ∀ W, Below w8.heap.size w8 W → (Below w8.heap.size w8 W ∧ (W.cell? ⟨w7.heap.size, 0, none⟩ = some (.int .u64 0) ∧ W.cell? ⟨w7.heap.size, 1, none⟩ = some (.int .u64 0) ∧ W.cell? ⟨w7.heap.size, 2, none⟩ = some (.int .u64 0) ∧ W.cell? ⟨w7.heap.size, 3, none⟩ = some (.int .u64 0)) ∧ (W.cell? ⟨w4.heap.size, 0, none⟩ = some (.int .u64 0) ∧ W.cell? ⟨w4.heap.size, 1, none⟩ = some (.int .u64 0) ∧ W.cell? ⟨w4.heap.size, 2, none⟩ = some (.int .u64 0) ∧ W.cell? ⟨w4.heap.size, 3, none⟩ = some (.int .u64 0))) from fun W hW => ⟨hW, (N8.out.later hW (by omega)).cells0, (Z8.out.later hW (by omega)).cells0⟩)
        refine wp_region_held_drew (S := fun W => Below w8.heap.size w8 W ∧ (W.cell? ⟨w7.heap.size, 0, none⟩ = some (.int .u64 0) ∧ W.cell? ⟨w7.heap.size, 1, none⟩ = some (.int .u64 0) ∧ W.cell? ⟨w7.heap.size, 2, none⟩ = some (.int .u64 0) ∧ W.cell? ⟨w7.heap.size, 3, none⟩ = some (.int .u64 0)) ∧ (W.cell? ⟨w4.heap.size, 0, none⟩ = some (.int .u64 0) ∧ W.cell? ⟨w4.heap.size, 1, none⟩ = some (.int .u64 0) ∧ W.cell? ⟨w4.heap.size, 2, none⟩ = some (.int .u64 0) ∧ W.cell? ⟨w4.heap.size, 3, none⟩ = some (.int .u64 0))) (by kernel_rfl) ?_ (fun hHeld => ?_)
        · exact MK.out _ (below_drew _)
        refine wpAnyH_take (i := 0) (v := (.bool false)) rfl (by kernel_rfl) (by kernel_rfl) (by kernel_rfl) (fun _ _ _ h => h) (Or.inl ⟨by rfl, ?_⟩) hHeld ?_
        · intro w hSw; try dsimp only at hSw
          go_simp
        try simp only [Act.put, List.getElem_toArray, List.getElem_cons_zero, List.getElem_cons_succ, List.setIfInBounds_toArray, List.set_cons_zero, List.set_cons_succ]
        refine wpAnyH_take (i := 1) (v := (.bool true)) rfl (by kernel_rfl) (by kernel_rfl) (by kernel_rfl) (fun _ _ _ h => h) (Or.inl ⟨by rfl, ?_⟩) hHeld ?_
        · intro w hSw; try dsimp only at hSw
          go_simp
        try simp only [Act.put, List.getElem_toArray, List.getElem_cons_zero, List.getElem_cons_succ, List.setIfInBounds_toArray, List.set_cons_zero, List.set_cons_succ]
        refine wpAnyH_take (i := 2) (v := (.bool true)) rfl (by kernel_rfl) (by kernel_rfl) (by kernel_rfl) (fun _ _ _ h => h) (Or.inl ⟨by rfl, ?_⟩) hHeld ?_
        · intro w hSw; try dsimp only at hSw
          go_simp
        try simp only [Act.put, List.getElem_toArray, List.getElem_cons_zero, List.getElem_cons_succ, List.setIfInBounds_toArray, List.set_cons_zero, List.set_cons_succ]
        refine wpAnyH_take (i := 3) (v := (.agg #[.int .u64 0, .int .u64 0, .int .u64 0, .int .u64 0])) rfl (by kernel_rfl) (by kernel_rfl) (by kernel_rfl) (fun _ _ _ h => h) (Or.inl ⟨by rfl, ?_⟩) hHeld ?_
        · intro w hSw; try dsimp only at hSw
          go_simp
        try simp only [Act.put, List.getElem_toArray, List.getElem_cons_zero, List.getElem_cons_succ, List.setIfInBounds_toArray, List.set_cons_zero, List.set_cons_succ]
        refine wpAnyH_take (i := 5) (v := (.agg #[.int .u64 0, .int .u64 0, .int .u64 0, .int .u64 0])) rfl (by kernel_rfl) (by kernel_rfl) (by kernel_rfl) (fun _ _ _ h => h) (Or.inl ⟨by rfl, ?_⟩) hHeld ?_
        · intro w hSw; try dsimp only at hSw
          go_simp
        try simp only [Act.put, List.getElem_toArray, List.getElem_cons_zero, List.getElem_cons_succ, List.setIfInBounds_toArray, List.set_cons_zero, List.set_cons_succ]
        refine wpAnyH_ready (rs := [4]) (by kernel_rfl) (by simp) ?_
        refine AllReadyH.cons rfl (fun K hK => ?_) AllReadyH.nil
        go_simp
        refine (words_zeroC _).mono ?_
        rintro e w9 ⟨rfl, hb9⟩
        refine hK.out _ _ ?_ (fun hHeld => ?_)
        · exact MK.out _ ((below_drew w8).trans hb9)
        clear hK K
        try simp only [Act.put, List.getElem_toArray, List.getElem_cons_zero, List.getElem_cons_succ, List.setIfInBounds_toArray, List.set_cons_zero, List.set_cons_succ]
        refine wpAnyH_take (i := 6) (v := (.bool true)) rfl (by kernel_rfl) (by kernel_rfl) (by kernel_rfl) (fun _ _ _ h => h) (Or.inl ⟨by rfl, ?_⟩) hHeld ?_
        · intro w hSw; try dsimp only at hSw
          go_simp
        try simp only [Act.put, List.getElem_toArray, List.getElem_cons_zero, List.getElem_cons_succ, List.setIfInBounds_toArray, List.set_cons_zero, List.set_cons_succ]
        refine wpAnyH_take (i := 7) (v := (.bool true)) rfl (by kernel_rfl) (by kernel_rfl) (by kernel_rfl) (fun _ _ _ h => h) (Or.inl ⟨by rfl, ?_⟩) hHeld ?_
        · intro w hSw; try dsimp only at hSw
          go_simp
        try simp only [Act.put, List.getElem_toArray, List.getElem_cons_zero, List.getElem_cons_succ, List.setIfInBounds_toArray, List.set_cons_zero, List.set_cons_succ]
        refine wpAnyH_take (i := 8) (v := (.bool true)) rfl (by kernel_rfl) (by kernel_rfl) (by kernel_rfl) (fun _ _ _ h => h) (Or.inl ⟨by rfl, ?_⟩) hHeld ?_
        · intro w hSw; try dsimp only at hSw
          go_simp
        try simp only [Act.put, List.getElem_toArray, List.getElem_cons_zero, List.getElem_cons_succ, List.setIfInBounds_toArray, List.set_cons_zero, List.set_cons_succ]
        refine wpAnyH_done (by kernel_rfl) ?_ _
        go_wp2
        go_ret
        exact ⟨rfl, HU8.out.trans (((below_drew w8).trans hb9).mono HU8.out.size)⟩
    · by_cases hlt : k < nexts.length
      · obtain ⟨R1, R2⟩ := HL.out.rows
        obtain ⟨g, cap, rfl, hgw, hcap, _, hx, _⟩ := R1.last
        obtain ⟨aa, ca, rfl, _⟩ := R2.ids
        obtain ⟨F1, S1, G1, L1, W1, O1, O2, D1⟩ := HL.out
        obtain ⟨x0, x1, x2, x3⟩ := hx.cellsAt
        have e1 : IntKind.i64.wrap (p.length : Int) = (p.length : Int) := IntWalk.i64_in _ (by omega)
        have e2 : ((p.length : Int) + 1 - 1) = (p.length : Int) := by omega
        have HS := hide (And.intro S1 (And.intro G1 (And.intro L1 (And.intro W1 (And.intro O1 (And.intro O2 D1))))))
        have HWF := hide hwf
        have HL0 := HL
        clear R1 R2 S1 G1 L1 W1 O1 O2 D1 hx HL HC hwf
        go_wp2_with fail
        obtain ⟨w7, hw7⟩ : ∃ z, z = wr.alloc (box x 23) := ⟨_, rfl⟩
        rw [← hw7]
        have b7 : Below wr.heap.size wr w7 := by rw [hw7]; exact (Below.refl _ _).alloc (Nat.le_refl _) _
        have X7 := hide (show IdAt w7 wr.heap.size 0 x by rw [hw7]; exact idAt_new wr x 23)
        have hs7 : wr.heap.size < w7.heap.size := by rw [hw7]; simp
        clear hw7 x0 x1 x2 x3
        refine (next_on F1 bw key p A x w7 (Walk.below HS.out.2.2.2.1 b7) (by omega)).mono ?_
        rintro e w8 ⟨rfl, hb8⟩
        have X8 := hide (X7.out.later hb8 hs7)
        have b8 := b7.trans (hb8.mono b7.size)
        have hs8 : wr.heap.size < w8.heap.size := by have := hb8.size; omega
        clear X7 b7 hb8
        go_upto_region 17 with fail
        obtain ⟨w9, hw9⟩ : ∃ z, z = w8.alloc (box x 27) := ⟨_, rfl⟩
        rw [← hw9]
        have bbw9 : Below w8.heap.size w8 w9 := by rw [hw9]; exact (Below.refl _ _).alloc (Nat.le_refl _) _
        have hsw9 : w8.heap.size < w9.heap.size := by rw [hw9]; simp
        have N9 := hide (show IdAt w9 w8.heap.size 0 x by rw [hw9]; exact idAt_new w8 x 27)
        have X9 := hide (X8.out.later bbw9 hs8)
        have b9 := hide (b8.trans (bbw9.mono b8.size))
        clear hw9 bbw9 X8 b8
        go_cut [71] from 43 to 135 (fun s wx => s = .bool false ∧ Hid (Below w9.heap.size w9 wx))
        case first =>
          have t : same4 x.a x.b x.c x.d x.a x.b x.c x.d = true := by rw [same4_ids]; simp
          have MK := hide (show ∀ W, Below w9.heap.size w9 W → (Below w9.heap.size w9 W ∧ (W.cell? ⟨wr.heap.size, 0, none⟩ = some (.int .u64 x.a) ∧ W.cell? ⟨wr.heap.size, 1, none⟩ = some (.int .u64 x.b) ∧ W.cell? ⟨wr.heap.size, 2, none⟩ = some (.int .u64 x.c) ∧ W.cell? ⟨wr.heap.size, 3, none⟩ = some (.int .u64 x.d)) ∧ (W.cell? ⟨w8.heap.size, 0, none⟩ = some (.int .u64 x.a) ∧ W.cell? ⟨w8.heap.size, 1, none⟩ = some (.int .u64 x.b) ∧ W.cell? ⟨w8.heap.size, 2, none⟩ = some (.int .u64 x.c) ∧ W.cell? ⟨w8.heap.size, 3, none⟩ = some (.int .u64 x.d))) from fun W hW => ⟨hW, (X9.out.later hW (by omega)).cells0, (N9.out.later hW (by omega)).cells0⟩)
          refine wp_region_held_drew (S := fun W => Below w9.heap.size w9 W ∧ (W.cell? ⟨wr.heap.size, 0, none⟩ = some (.int .u64 x.a) ∧ W.cell? ⟨wr.heap.size, 1, none⟩ = some (.int .u64 x.b) ∧ W.cell? ⟨wr.heap.size, 2, none⟩ = some (.int .u64 x.c) ∧ W.cell? ⟨wr.heap.size, 3, none⟩ = some (.int .u64 x.d)) ∧ (W.cell? ⟨w8.heap.size, 0, none⟩ = some (.int .u64 x.a) ∧ W.cell? ⟨w8.heap.size, 1, none⟩ = some (.int .u64 x.b) ∧ W.cell? ⟨w8.heap.size, 2, none⟩ = some (.int .u64 x.c) ∧ W.cell? ⟨w8.heap.size, 3, none⟩ = some (.int .u64 x.d))) (by kernel_rfl) ?_ (fun hHeld => ?_)
          · exact MK.out _ (below_drew _)
          refine wpAnyH_take (i := 0) (v := (.bool true)) rfl (by kernel_rfl) (by kernel_rfl) (by kernel_rfl) (fun _ _ _ h => h) (Or.inl ⟨by rfl, ?_⟩) hHeld ?_
          · intro w hSw; try dsimp only at hSw
            go_simp
          try simp only [Act.put, List.getElem_toArray, List.getElem_cons_zero, List.getElem_cons_succ, List.setIfInBounds_toArray, List.set_cons_zero, List.set_cons_succ]
          refine wpAnyH_take (i := 1) (v := (.bool false)) rfl (by kernel_rfl) (by kernel_rfl) (by kernel_rfl) (fun _ _ _ h => h) (Or.inl ⟨by rfl, ?_⟩) hHeld ?_
          · intro w hSw; try dsimp only at hSw
            go_simp
          try simp only [Act.put, List.getElem_toArray, List.getElem_cons_zero, List.getElem_cons_succ, List.setIfInBounds_toArray, List.set_cons_zero, List.set_cons_succ]
          refine wpAnyH_take (i := 2) (v := (.bool false)) rfl (by kernel_rfl) (by kernel_rfl) (by kernel_rfl) (fun _ _ _ h => h) (Or.inl ⟨by rfl, ?_⟩) hHeld ?_
          · intro w hSw; try dsimp only at hSw
            go_simp
          try simp only [Act.put, List.getElem_toArray, List.getElem_cons_zero, List.getElem_cons_succ, List.setIfInBounds_toArray, List.set_cons_zero, List.set_cons_succ]
          refine wpAnyH_take (i := 3) (v := (idV x)) rfl (by kernel_rfl) (by kernel_rfl) (by kernel_rfl) (fun _ _ _ h => h) (Or.inl ⟨by rfl, ?_⟩) hHeld ?_
          · intro w hSw; try dsimp only at hSw
            go_simp
          try simp only [Act.put, List.getElem_toArray, List.getElem_cons_zero, List.getElem_cons_succ, List.setIfInBounds_toArray, List.set_cons_zero, List.set_cons_succ]
          refine wpAnyH_take (i := 5) (v := (idV x)) rfl (by kernel_rfl) (by kernel_rfl) (by kernel_rfl) (fun _ _ _ h => h) (Or.inl ⟨by rfl, ?_⟩) hHeld ?_
          · intro w hSw; try dsimp only at hSw
            go_simp
          try simp only [Act.put, List.getElem_toArray, List.getElem_cons_zero, List.getElem_cons_succ, List.setIfInBounds_toArray, List.set_cons_zero, List.set_cons_succ]
          refine wpAnyH_ready (rs := [4]) (by kernel_rfl) (by simp) ?_
          refine AllReadyH.cons rfl (fun K hK => ?_) AllReadyH.nil
          go_simp
          refine (words_any x _).mono ?_
          rintro e w10 ⟨rfl, hb10⟩
          refine hK.out _ _ ?_ (fun hHeld => ?_)
          · exact MK.out _ ((below_drew w9).trans hb10)
          clear hK K
          try simp only [Act.put, List.getElem_toArray, List.getElem_cons_zero, List.getElem_cons_succ, List.setIfInBounds_toArray, List.set_cons_zero, List.set_cons_succ]
          refine wpAnyH_take (i := 6) (v := (.bool false)) rfl (by kernel_rfl) (by kernel_rfl) (by kernel_rfl) (fun _ _ _ h => h) (Or.inl ⟨by rfl, ?_⟩) hHeld ?_
          · intro w hSw; try dsimp only at hSw
            go_simp
          try simp only [Act.put, List.getElem_toArray, List.getElem_cons_zero, List.getElem_cons_succ, List.setIfInBounds_toArray, List.set_cons_zero, List.set_cons_succ]
          refine wpAnyH_take (i := 7) (v := (.bool false)) rfl (by kernel_rfl) (by kernel_rfl) (by kernel_rfl) (fun _ _ _ h => h) (Or.inl ⟨by rfl, ?_⟩) hHeld ?_
          · intro w hSw; try dsimp only at hSw
            go_simp
          try simp only [Act.put, List.getElem_toArray, List.getElem_cons_zero, List.getElem_cons_succ, List.setIfInBounds_toArray, List.set_cons_zero, List.set_cons_succ]
          refine wpAnyH_done (by kernel_rfl) ?_ _
          go_wp2_with fail
          go_meet
          exact ⟨rfl, hide ((below_drew w9).trans hb10)⟩
        case rest =>
        obtain ⟨rfl, hb10⟩ := hcut
        rename World => w10
        have b10 := hide (b9.out.trans (hb10.out.mono b9.out.size))
        have X10 := hide (X9.out.later hb10.out (by omega))
        have hs10 : wr.heap.size < w10.heap.size := by have := hb10.out.size; omega
        have HUr := hide ((HL0.out.under HB5.out hF5.out))
        clear X9 b9 hb10 N9 hs8
        obtain ⟨y, hy⟩ : ∃ y, nexts[k]? = some y := ⟨_, List.getElem?_eq_getElem hlt⟩
        have wy := hide (HX.out.2.2 y (List.mem_of_getElem? hy))
        have BW := HB3.out.trans ((HUr.out.trans (b10.out.mono HUr.out.size)).mono HB3.out.size)
        obtain ⟨a1, c1, he, hall⟩ := HI.out.later BW (Nat.le_refl _)
        simp at he
        obtain ⟨rfl, rfl⟩ := he
        obtain ⟨ba, off, rfl, hba, hi⟩ := hall k y hy
        obtain ⟨y0, y1, y2, y3⟩ := hi.cellsAt
        have BW := hide BW
        clear hall hi hy
        go_upto_region 20 with fail
        obtain ⟨w11, hw11⟩ : ∃ z, z = w10.alloc (box y 23) := ⟨_, rfl⟩
        rw [← hw11]
        have bbw11 : Below w10.heap.size w10 w11 := by rw [hw11]; exact (Below.refl _ _).alloc (Nat.le_refl _) _
        have hsw11 : w10.heap.size < w11.heap.size := by rw [hw11]; simp
        have Y11 := hide (show IdAt w11 w10.heap.size 0 y by rw [hw11]; exact idAt_new w10 y 23)
        have X11 := hide (X10.out.later bbw11 hs10)
        have b11 := hide (b10.out.trans (bbw11.mono b10.out.size))
        have BW11 := hide (BW.out.trans (bbw11.mono BW.out.size))
        clear hw11 bbw11 X10 b10 BW y0 y1 y2 y3 hba
        go_cut [19] from 43 to 135 (fun s wx => ∃ d : Bool, s = .bool d ∧ wx = w11)
        case first =>
          by_cases hd : k < dones.length
          · obtain ⟨dv, hdv⟩ : ∃ dv, dones[k]? = some dv := ⟨_, List.getElem?_eq_getElem hd⟩
            obtain ⟨a1, c1, he, hall⟩ := HJ.out.later BW11.out (Nat.le_refl _)
            simp at he
            obtain ⟨rfl, rfl⟩ := he
            obtain ⟨bd, offd, rfl, hbd, hcell⟩ := hall k dv hdv
            clear hall hdv
            go_wp2_with fail
            go_meet
            exact ⟨dv, rfl, rfl⟩
          · go_wp2_with fail
            go_meet
            exact ⟨false, rfl, rfl⟩
        case rest =>
        obtain ⟨d, rfl, rfl⟩ := hcut
        rename World => w11
        obtain ⟨y0, y1, y2, y3⟩ := Y11.out.cells0
        go_wp2_with fail
        refine (newID_any y w11).mono ?_
        rintro e w12 ⟨rfl, hb12⟩
        have b12 := b11.out.trans (hb12.mono b11.out.size)
        have X12 := hide (X11.out.later hb12 (by omega))
        have Y12 := hide (Y11.out.later hb12 (by omega))
        have hs12 := hb12.size
        clear X11 Y11 b11 BW11 y0 y1 y2 y3 hb12
        obtain ⟨S1, G1, L1, W1, O1, O2, D1⟩ := HS.out
        have PK := hide (show Walk w12 F1 bw key (p ++ [x]) A false false ∧ Glob w12 F1 ∧ Step w5 w12 F0 F1 ∧ Own w5.heap.size F1 w12 (.slice (some ⟨g, 0, none⟩) (p.length + 1) cap) (p ++ [x]) ∧ Own w5.heap.size F1 w12 (.slice aa A.length ca) A ∧ (∀ g_1, (Value.slice (some ⟨g, 0, none⟩) (p.length + 1) cap).ownBlock = some g_1 → (Value.slice aa A.length ca).ownBlock ≠ some g_1) ∧ ¬ F1 wr.heap.size ∧ ¬ F1 w10.heap.size from ⟨Walk.below W1 b12, G1.step (Step.of_below F1 b12), S1.trans (Step.of_below F1 b12), O1.below b12, O2.below b12, D1, fun h => by have := L1 _ h; omega, fun h => by have := L1 _ h; omega⟩)
        clear S1 G1 L1 W1 O1 O2 D1 HS b12
        go_wp2_with fail
        refine (answer_any F1 bw key p A x y d w12 PK.out.1 PK.out.2.1 (by omega) hav HX.out.2.1 (HWF.out x (by simp)) wy.out).mono ?_
        rintro e w13 ⟨v, F2, rfl, hev, hh, hst⟩
        obtain ⟨_, Q1, Q2, Q3, Q4, Q5, Q6, Q7⟩ := PK.out
        have LV := hide (Live.step Q2 Q1 Q3 Q4 Q5 hst hh)
        have XX := hide (X12.out.keep (hst.block _ (by omega) Q6))
        have YY := hide (Y12.out.keep (hst.block _ (by omega) Q7))
        have KK := hide (C2.out.later (LV.out.under HB5.out hF5.out) (by omega))
        have hs13 := hst.size
        clear Q1 Q2 Q3 Q4 Q5 Q6 Q7 hst hh PK X12 Y12 HUr
        obtain ⟨x0, x1, x2, x3⟩ := XX.out.cells0
        obtain ⟨y0, y1, y2, y3⟩ := YY.out.cells0
        by_cases h1 : d = false ∧ y = x
        · obtain ⟨rfl, hyx⟩ := h1
          have t : same4 y.a y.b y.c y.d x.a x.b x.c x.d = true := by rw [same4_ids]; simpa using hyx
          by_cases hf : A.length = 32
          · have ea : answer key p A x y false = ⟨p ++ [x], A, false, true⟩ := by simp [answer, hyx, dead, hf]
            rw [ea] at hev LV
            rw [hf] at LV
            clear hyx ea
            rcases hev with ⟨h, _⟩ | ⟨_, t0, p0, rfl⟩
            · simp at h
            · go_wp2
              go_roundw
              case rel => exact ⟨k + 1, true, _, _, _, by omega, rfl, by go_num, LV, hide (.inl ⟨rfl, rfl⟩)⟩
              case measure => simp [intOf]; omega
          · have ea : answer key p A x y false = ⟨p, A ++ [x], false, p.isEmpty⟩ := by simp [answer, hyx, dead, hf]
            rw [ea] at hev LV
            clear hyx ea
            have R14 := hide (show Row (w13.alloc (box x 23)) (.slice aa A.length ca) A from LV.out.rows.2.below ((Below.refl _ _).alloc (Nat.le_refl _) _))
            have N14 := hide (show ∀ j, j < 4 → (w13.alloc (box x 23)).cell? ((⟨w13.heap.size, 0, none⟩ : Addr).add j) = some (.int .u64 (lim x j)) from fun j hj => by
              have h := idAt_new w13 x 23 j hj
              rw [add_plain]
              exact h)
            have LV14 := hide (LV.out.below ((Below.refl w13.heap.size w13).alloc (Nat.le_refl _) (box x 23)))
            clear LV
            have hp1 : p.length ≤ cap := by omega
            by_cases hp : p = []
            · subst hp
              rcases hev with ⟨h, _⟩ | ⟨_, t0, p0, rfl⟩
              · simp at h
              · go_wp2_with (at_builtin; refine wpList_push rfl _ _ rfl _ A x rfl R14.out (by omega) ⟨w13.heap.size, 0, none⟩ 1 rfl N14.out ?_; intro gq capq w15 hr15 hg15 hf15; have H15 := hide (And.intro hr15 (And.intro hg15 hf15)); clear hr15 hg15 hf15)
                go_roundw
                case rel => exact ⟨k + 1, true, _, _, _, by omega, rfl, by go_num, hide (Live.cutStack (LV14.out.pushAvoid h25 H15.out.1 H15.out.2.1 H15.out.2.2)), hide (.inl ⟨rfl, rfl⟩)⟩
                case measure => simp [intOf]; omega
            · have hpe : p.isEmpty = false := by cases p with | nil => exact absurd rfl hp | cons _ _ => rfl
              rw [hpe] at hev LV14
              have hp2 : ((p.length : Int) == 0) = false := by
                cases p with
                | nil => exact absurd rfl hp
                | cons _ _ => simp; omega
              clear hpe
              rcases hev with ⟨_, rfl⟩ | ⟨h, _⟩
              · go_wp2_with (at_builtin; refine wpList_push rfl _ _ rfl _ A x rfl R14.out (by omega) ⟨w13.heap.size, 0, none⟩ 1 rfl N14.out ?_; intro gq capq w15 hr15 hg15 hf15; have H15 := hide (And.intro hr15 (And.intro hg15 hf15)); clear hr15 hg15 hf15)
                go_roundw
                case rel =>
                  refine ⟨k + 1, false, _, _, _, by omega, rfl, by go_num, hide (Live.cutStack (LV14.out.pushAvoid h25 H15.out.1 H15.out.2.1 H15.out.2.2)), hide (.inr ⟨rfl, p.dropLast, p.getLast hp, A ++ [x], ?_, ?_, rfl, ?_, ?_, ?_⟩)⟩
                  · rw [List.dropLast_concat_getLast]
                  · rw [List.dropLast_concat_getLast]
                  · simp; omega
                  · simp; omega
                  · rw [List.dropLast_concat_getLast]
                    intro z hz
                    exact HWF.out z (by simp [hz])
                case measure => simp [intOf]; omega
              · simp at h
        · by_cases h2 : (d = false ∧ ¬ InOpen y x key) ∨ y ∈ A
          · have ea : answer key p A x y d = ⟨p ++ [x], A, false, true⟩ := by unfold answer; rw [if_neg h1, if_pos h2]
            rw [ea] at hev LV
            clear ea
            rcases hev with ⟨h, _⟩ | ⟨_, t0, p0, rfl⟩
            · simp at h
            · obtain ⟨k0, k1, k2, k3⟩ := KK.out.cells0
              cases d
              · have hyx : y ≠ x := fun e => h1 ⟨rfl, e⟩
                have t : same4 y.a y.b y.c y.d x.a x.b x.c x.d = false := by rw [same4_ids]; simpa using hyx
                clear hyx h1
                by_cases hio : InOpen y x key
                · have hA : y ∈ A := by
                    rcases h2 with ⟨_, h⟩ | h
                    · exact absurd hio h
                    · exact h
                  have HH := hide (And.intro hio hA)
                  clear hio hA h2
                  go_wp2_with fail
                  refine (zzInOpen_any y x key _ wy.out (HWF.out x (by simp)) HX.out.2.1).mono ?_
                  rintro e w14 ⟨rfl, hb14⟩
                  rw [decide_eq_true HH.out.1]
                  have LV14 := hide (LV.out.below hb14)
                  obtain ⟨n0, n1, n2, n3⟩ := (YY.out.later hb14 (by omega)).cells0
                  clear LV hb14 x0 x1 x2 x3 y0 y1 y2 y3 k0 k1 k2 k3
                  go_wp2_with fail
                  refine (zzContains_any _ A y _ (by omega) LV14.out.rows.2.ids).mono ?_
                  rintro e w15 ⟨rfl, hb15⟩
                  rw [decide_eq_true HH.out.2]
                  have LV15 := hide (LV14.out.below hb15)
                  clear LV14 hb15 n0 n1 n2 n3
                  go_wp2
                  go_roundw
                  case rel => exact ⟨k + 1, true, _, _, _, by omega, rfl, by go_num, LV15, hide (.inl ⟨rfl, rfl⟩)⟩
                  case measure => simp [intOf]; omega
                · have HH := hide hio
                  clear hio h2
                  go_wp2_with fail
                  refine (zzInOpen_any y x key _ wy.out (HWF.out x (by simp)) HX.out.2.1).mono ?_
                  rintro e w14 ⟨rfl, hb14⟩
                  rw [decide_eq_false HH.out]
                  have LV14 := hide (LV.out.below hb14)
                  clear LV hb14 x0 x1 x2 x3 y0 y1 y2 y3 k0 k1 k2 k3
                  go_wp2
                  go_roundw
                  case rel => exact ⟨k + 1, true, _, _, _, by omega, rfl, by go_num, LV14, hide (.inl ⟨rfl, rfl⟩)⟩
                  case measure => simp [intOf]; omega
              · have hA : y ∈ A := by
                  rcases h2 with ⟨h, _⟩ | h
                  · simp at h
                  · exact h
                have HH := hide hA
                clear hA h2 h1
                go_wp2_with fail
                refine (zzContains_any _ A y _ (by omega) LV.out.rows.2.ids).mono ?_
                rintro e w15 ⟨rfl, hb15⟩
                rw [decide_eq_true HH.out]
                have LV15 := hide (LV.out.below hb15)
                clear LV hb15 x0 x1 x2 x3 y0 y1 y2 y3 k0 k1 k2 k3
                go_wp2
                go_roundw
                case rel => exact ⟨k + 1, true, _, _, _, by omega, rfl, by go_num, LV15, hide (.inl ⟨rfl, rfl⟩)⟩
                case measure => simp [intOf]; omega
          · have ea : answer key p A x y d = ⟨(p ++ [x]) ++ [y], A, d, false⟩ := by unfold answer; rw [if_neg h1, if_neg h2]
            rw [ea] at hev LV
            clear ea
            rcases hev with ⟨_, rfl⟩ | ⟨h, _⟩
            · obtain ⟨k0, k1, k2, k3⟩ := KK.out.cells0
              have hnA : y ∉ A := fun h => h2 (.inr h)
              cases d
              · have hyx : y ≠ x := fun e => h1 ⟨rfl, e⟩
                have t : same4 y.a y.b y.c y.d x.a x.b x.c x.d = false := by rw [same4_ids]; simpa using hyx
                have hio : InOpen y x key := by
                  by_cases h : InOpen y x key
                  · exact h
                  · exact absurd (.inl ⟨rfl, h⟩) h2
                have HH := hide (And.intro hio hnA)
                clear hio hnA h2 hyx h1
                go_wp2_with fail
                refine (zzInOpen_any y x key _ wy.out (HWF.out x (by simp)) HX.out.2.1).mono ?_
                rintro e w14 ⟨rfl, hb14⟩
                rw [decide_eq_true HH.out.1]
                have LV14 := hide (LV.out.below hb14)
                have Y14 := hide (YY.out.later hb14 (by omega))
                obtain ⟨n0, n1, n2, n3⟩ := Y14.out.cells0
                have hs14 := hb14.size
                clear LV hb14 x0 x1 x2 x3 y0 y1 y2 y3 k0 k1 k2 k3
                go_wp2_with fail
                refine (zzContains_any _ A y _ (by omega) LV14.out.rows.2.ids).mono ?_
                rintro e w15 ⟨rfl, hb15⟩
                rw [decide_eq_false HH.out.2]
                have LV15 := hide (LV14.out.below hb15)
                have Y15 := hide (Y14.out.later hb15 (by omega))
                clear LV14 n0 n1 n2 n3
                have hs15 := hb15.size
                obtain ⟨n0, n1, n2, n3⟩ := Y15.out.cells0
                have R16 := hide (show Row (w15.alloc (box y 23)) (.slice (some ⟨g, 0, none⟩) (p.length + 1) cap) (p ++ [x]) from LV15.out.rows.1.below ((Below.refl _ _).alloc (Nat.le_refl _) _))
                have N16 := hide (show ∀ j, j < 4 → (w15.alloc (box y 23)).cell? ((⟨w15.heap.size, 0, none⟩ : Addr).add j) = some (.int .u64 (lim y j)) from fun j hj => by
                  have h := idAt_new w15 y 23 j hj
                  rw [add_plain]
                  exact h)
                have LV16 := hide (LV15.out.below ((Below.refl w15.heap.size w15).alloc (Nat.le_refl _) (box y 23)))
                clear LV15 hb15
                go_wp2_with (at_builtin; refine wpList_push rfl _ _ rfl _ (p ++ [x]) y rfl R16.out (by simp; omega) ⟨w15.heap.size, 0, none⟩ 1 rfl N16.out ?_; intro gq capq w17 hr15 hg15 hf15; have H15 := hide (And.intro hr15 (And.intro hg15 hf15)); clear hr15 hg15 hf15)
                go_roundw
                case rel =>
                  refine ⟨k + 1, false, _, _, _, by omega, rfl, by go_num, hide (by have h := LV16.out.pushStack h25 H15.out.1 H15.out.2.1 H15.out.2.2; rw [List.length_append, List.length_singleton] at h; exact h), hide (.inr ⟨rfl, p ++ [x], y, A, rfl, rfl, rfl, ?_, hav, ?_⟩)⟩
                  · simp; omega
                  · intro z hz
                    rcases List.mem_append.1 hz with h | h
                    · exact HWF.out z h
                    · simp at h
                      rw [h]
                      exact wy.out
                case measure => simp [intOf]; omega
              · have HH := hide hnA
                clear hnA h2 h1
                go_wp2_with fail
                refine (zzContains_any _ A y _ (by omega) LV.out.rows.2.ids).mono ?_
                rintro e w15 ⟨rfl, hb15⟩
                rw [decide_eq_false HH.out]
                have LV15 := hide (LV.out.below hb15)
                have Y15 := hide (YY.out.later hb15 (by omega))
                clear LV x0 x1 x2 x3 y0 y1 y2 y3 k0 k1 k2 k3
                have hs15 := hb15.size
                obtain ⟨n0, n1, n2, n3⟩ := Y15.out.cells0
                have R16 := hide (show Row (w15.alloc (box y 23)) (.slice (some ⟨g, 0, none⟩) (p.length + 1) cap) (p ++ [x]) from LV15.out.rows.1.below ((Below.refl _ _).alloc (Nat.le_refl _) _))
                have N16 := hide (show ∀ j, j < 4 → (w15.alloc (box y 23)).cell? ((⟨w15.heap.size, 0, none⟩ : Addr).add j) = some (.int .u64 (lim y j)) from fun j hj => by
                  have h := idAt_new w15 y 23 j hj
                  rw [add_plain]
                  exact h)
                have LV16 := hide (LV15.out.below ((Below.refl w15.heap.size w15).alloc (Nat.le_refl _) (box y 23)))
                clear LV15 hb15
                go_wp2_with (at_builtin; refine wpList_push rfl _ _ rfl _ (p ++ [x]) y rfl R16.out (by simp; omega) ⟨w15.heap.size, 0, none⟩ 1 rfl N16.out ?_; intro gq capq w17 hr15 hg15 hf15; have H15 := hide (And.intro hr15 (And.intro hg15 hf15)); clear hr15 hg15 hf15)
                go_roundw
                case rel => exact ⟨k + 1, true, _, _, _, by omega, rfl, by go_num, hide (by have h := LV16.out.pushStack h25 H15.out.1 H15.out.2.1 H15.out.2.2; rw [List.length_append, List.length_singleton] at h; exact h), hide (.inl ⟨rfl, rfl⟩)⟩
                case measure => simp [intOf]; omega
            · simp at h
      · have hlt' := hlt
        obtain ⟨R1, R2⟩ := HL.out.rows
        obtain ⟨g, cap, rfl, hgw, hcap, _, hx, _⟩ := R1.last
        obtain ⟨F1, S1, G1, L1, W1, O1, O2, D1⟩ := HL.out
        have HW := hide W1
        have XR := hide hx
        have HU := hide (HB3.out.trans ((HL.out.under HB5.out hF5.out).mono (by omega)))
        have SZ := HL.out.size
        have e1 : IntKind.i64.wrap (p.length : Int) = (p.length : Int) := IntWalk.i64_in _ (by omega)
        have e2 : ((p.length : Int) + 1 - 1) = (p.length : Int) := by omega
        have e3 : ¬ ((p.length : Int) + 1 ≤ (p.length : Int)) := by omega
        clear S1 G1 L1 W1 O1 O2 D1 HL HC hwf R1 R2 hx
        go_wp2_with fail
        refine (next_on F1 bw key p A x wr HW.out (by omega)).mono ?_
        rintro e w7 ⟨rfl, hb7⟩
        have SZ7 := hb7.size
        have X7 := hide (XR.out.later hb7 hgw)
        go_upto_region 43 with fail
        obtain ⟨w8, hw8⟩ : ∃ z, z = w7.alloc (box x 27) := ⟨_, rfl⟩
        rw [← hw8]
        have bbw8 : Below w7.heap.size w7 w8 := by rw [hw8]; exact (Below.refl _ _).alloc (Nat.le_refl _) _
        have hsw8 : w7.heap.size < w8.heap.size := by rw [hw8]; simp
        have N8 := hide (show IdAt w8 w7.heap.size 0 x by rw [hw8]; exact idAt_new w7 x 27)
        have X8 := hide (X7.out.later bbw8 (by omega))
        have HU8 := hide (HU.out.trans ((hb7.trans (bbw8.mono hb7.size)).mono (by omega)))
        clear hw8 X7 XR HU bbw8 hb7 HW
        have t : same4 x.a x.b x.c x.d x.a x.b x.c x.d = true := by rw [same4_ids]; simp
        have MK := hide (show ∀ W, Below w8.heap.size w8 W → (Below w8.heap.size w8 W ∧ (W.cell? ⟨w7.heap.size, 0, none⟩ = some (.int .u64 x.a) ∧ W.cell? ⟨w7.heap.size, 1, none⟩ = some (.int .u64 x.b) ∧ W.cell? ⟨w7.heap.size, 2, none⟩ = some (.int .u64 x.c) ∧ W.cell? ⟨w7.heap.size, 3, none⟩ = some (.int .u64 x.d)) ∧ (W.cell? ⟨g, p.length * 4, none⟩ = some (.int .u64 x.a) ∧ W.cell? ⟨g, p.length * 4 + 1, none⟩ = some (.int .u64 x.b) ∧ W.cell? ⟨g, p.length * 4 + 2, none⟩ = some (.int .u64 x.c) ∧ W.cell? ⟨g, p.length * 4 + 3, none⟩ = some (.int .u64 x.d))) from fun W hW => ⟨hW, (N8.out.later hW (by omega)).cells0, (X8.out.later hW (by omega)).cellsAt⟩)
        refine wp_region_held_drew (S := fun W => Below w8.heap.size w8 W ∧ (W.cell? ⟨w7.heap.size, 0, none⟩ = some (.int .u64 x.a) ∧ W.cell? ⟨w7.heap.size, 1, none⟩ = some (.int .u64 x.b) ∧ W.cell? ⟨w7.heap.size, 2, none⟩ = some (.int .u64 x.c) ∧ W.cell? ⟨w7.heap.size, 3, none⟩ = some (.int .u64 x.d)) ∧ (W.cell? ⟨g, p.length * 4, none⟩ = some (.int .u64 x.a) ∧ W.cell? ⟨g, p.length * 4 + 1, none⟩ = some (.int .u64 x.b) ∧ W.cell? ⟨g, p.length * 4 + 2, none⟩ = some (.int .u64 x.c) ∧ W.cell? ⟨g, p.length * 4 + 3, none⟩ = some (.int .u64 x.d))) (by kernel_rfl) ?_ (fun hHeld => ?_)
        · exact MK.out _ (below_drew _)
        refine wpAnyH_take (i := 0) (v := (.bool true)) rfl (by kernel_rfl) (by kernel_rfl) (by kernel_rfl) (fun _ _ _ h => h) (Or.inl ⟨by rfl, ?_⟩) hHeld ?_
        · intro w hSw; try dsimp only at hSw
          go_simp
        try simp only [Act.put, List.getElem_toArray, List.getElem_cons_zero, List.getElem_cons_succ, List.setIfInBounds_toArray, List.set_cons_zero, List.set_cons_succ]
        refine wpAnyH_take (i := 1) (v := (.bool true)) rfl (by kernel_rfl) (by kernel_rfl) (by kernel_rfl) (fun _ _ _ h => h) (Or.inl ⟨by rfl, ?_⟩) hHeld ?_
        · intro w hSw; try dsimp only at hSw
          go_simp
        try simp only [Act.put, List.getElem_toArray, List.getElem_cons_zero, List.getElem_cons_succ, List.setIfInBounds_toArray, List.set_cons_zero, List.set_cons_succ]
        refine wpAnyH_take (i := 2) (v := (idV x)) rfl (by kernel_rfl) (by kernel_rfl) (by kernel_rfl) (fun _ _ _ h => h) (Or.inl ⟨by rfl, ?_⟩) hHeld ?_
        · intro w hSw; try dsimp only at hSw
          go_simp
        try simp only [Act.put, List.getElem_toArray, List.getElem_cons_zero, List.getElem_cons_succ, List.setIfInBounds_toArray, List.set_cons_zero, List.set_cons_succ]
        refine wpAnyH_take (i := 4) (v := (.slice (some ⟨g, 0, none⟩) (p.length + 1) cap)) rfl (by kernel_rfl) (by kernel_rfl) (by kernel_rfl) (fun _ _ _ h => h) (Or.inl ⟨by rfl, ?_⟩) hHeld ?_
        · intro w hSw; try dsimp only at hSw
          go_simp
        try simp only [Act.put, List.getElem_toArray, List.getElem_cons_zero, List.getElem_cons_succ, List.setIfInBounds_toArray, List.set_cons_zero, List.set_cons_succ]
        refine wpAnyH_take (i := 5) (v := (.slice (some ⟨g, 0, none⟩) (p.length + 1) cap)) rfl (by kernel_rfl) (by kernel_rfl) (by kernel_rfl) (fun _ _ _ h => h) (Or.inl ⟨by rfl, ?_⟩) hHeld ?_
        · intro w hSw; try dsimp only at hSw
          go_simp
        try simp only [Act.put, List.getElem_toArray, List.getElem_cons_zero, List.getElem_cons_succ, List.setIfInBounds_toArray, List.set_cons_zero, List.set_cons_succ]
        refine wpAnyH_take (i := 6) (v := (.int .i64 ((p.length : Int) + 1))) rfl (by kernel_rfl) (by kernel_rfl) (by kernel_rfl) (fun _ _ _ h => h) (Or.inl ⟨by rfl, ?_⟩) hHeld ?_
        · intro w hSw; try dsimp only at hSw
          go_simp
        try simp only [Act.put, List.getElem_toArray, List.getElem_cons_zero, List.getElem_cons_succ, List.setIfInBounds_toArray, List.set_cons_zero, List.set_cons_succ]
        refine wpAnyH_take (i := 7) (v := (.int .i64 (p.length : Int))) rfl (by kernel_rfl) (by kernel_rfl) (by kernel_rfl) (fun _ _ _ h => h) (Or.inl ⟨by rfl, ?_⟩) hHeld ?_
        · intro w hSw; try dsimp only at hSw
          go_simp
        try simp only [Act.put, List.getElem_toArray, List.getElem_cons_zero, List.getElem_cons_succ, List.setIfInBounds_toArray, List.set_cons_zero, List.set_cons_succ]
        refine wpAnyH_take (i := 8) (v := (.pointer (some ⟨g, p.length * 4, none⟩))) rfl (by kernel_rfl) (by kernel_rfl) (by kernel_rfl) (fun _ _ _ h => h) (Or.inl ⟨by rfl, ?_⟩) hHeld ?_
        · intro w hSw; try dsimp only at hSw
          go_simp
        try simp only [Act.put, List.getElem_toArray, List.getElem_cons_zero, List.getElem_cons_succ, List.setIfInBounds_toArray, List.set_cons_zero, List.set_cons_succ]
        refine wpAnyH_take (i := 9) (v := (idV x)) rfl (by kernel_rfl) (by kernel_rfl) (by kernel_rfl) (fun _ _ _ h => h) (Or.inl ⟨by rfl, ?_⟩) hHeld ?_
        · intro w hSw; try dsimp only at hSw
          go_simp
        try simp only [Act.put, List.getElem_toArray, List.getElem_cons_zero, List.getElem_cons_succ, List.setIfInBounds_toArray, List.set_cons_zero, List.set_cons_succ]
        refine wpAnyH_ready (rs := [3]) (by kernel_rfl) (by simp) ?_
        refine AllReadyH.cons rfl (fun K hK => ?_) AllReadyH.nil
        go_simp
        refine (words_any x _).mono ?_
        rintro e w9 ⟨rfl, hb9⟩
        refine hK.out _ _ ?_ (fun hHeld => ?_)
        · exact MK.out _ ((below_drew w8).trans hb9)
        clear hK K
        try simp only [Act.put, List.getElem_toArray, List.getElem_cons_zero, List.getElem_cons_succ, List.setIfInBounds_toArray, List.set_cons_zero, List.set_cons_succ]
        refine wpAnyH_take (i := 10) (v := (.bool true)) rfl (by kernel_rfl) (by kernel_rfl) (by kernel_rfl) (fun _ _ _ h => h) (Or.inl ⟨by rfl, ?_⟩) hHeld ?_
        · intro w hSw; try dsimp only at hSw
          go_simp
        try simp only [Act.put, List.getElem_toArray, List.getElem_cons_zero, List.getElem_cons_succ, List.setIfInBounds_toArray, List.set_cons_zero, List.set_cons_succ]
        refine wpAnyH_take (i := 11) (v := (.bool true)) rfl (by kernel_rfl) (by kernel_rfl) (by kernel_rfl) (fun _ _ _ h => h) (Or.inl ⟨by rfl, ?_⟩) hHeld ?_
        · intro w hSw; try dsimp only at hSw
          go_simp
        try simp only [Act.put, List.getElem_toArray, List.getElem_cons_zero, List.getElem_cons_succ, List.setIfInBounds_toArray, List.set_cons_zero, List.set_cons_succ]
        refine wpAnyH_take (i := 12) (v := (.bool true)) rfl (by kernel_rfl) (by kernel_rfl) (by kernel_rfl) (fun _ _ _ h => h) (Or.inl ⟨by rfl, ?_⟩) hHeld ?_
        · intro w hSw; try dsimp only at hSw
          go_simp
        try simp only [Act.put, List.getElem_toArray, List.getElem_cons_zero, List.getElem_cons_succ, List.setIfInBounds_toArray, List.set_cons_zero, List.set_cons_succ]
        refine wpAnyH_done (by kernel_rfl) ?_ _
        go_wp2
        go_ret
        exact ⟨rfl, HU8.out.trans (((below_drew w8).trans hb9).mono HU8.out.size)⟩
end Go.Proofs.Qxb6609340aDoor
