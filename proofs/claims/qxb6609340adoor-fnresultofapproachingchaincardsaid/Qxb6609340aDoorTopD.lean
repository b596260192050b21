import Derived.Test.Qxb6609340aDoorTopB
import Derived.Test.Qxb6609340aDoorChain
import Derived.Deep.RegionHeld3
namespace Go.Proofs.Qxb6609340aDoor
open Go.ChangeShapes Go.WideShapes Go.ChangeAt Go.RowKit
set_option linter.unusedVariables false
set_option linter.unusedSimpArgs false

theorem IdAt.keep {w w' : World} {b off : Nat} {x : Id} (h : IdAt w b off x) (hb : w'.heap[b]? = w.heap[b]?) : IdAt w' b off x := by
  intro k hk
  rw [World.cell?_of_block (w := w) (a := ⟨b, off + k, none⟩) hb]
  exact h k hk

theorem chain_get {start x : Id} {hops p : List Id} {j : Nat} (h : p ++ [x] = start :: hops.take j) : (p ++ [x])[0]? = some start ∧ ∀ i y, i < j → hops[i]? = some y → (p ++ [x])[i + 1]? = some y := by
  rw [h]
  refine ⟨rfl, fun i y hi hy => ?_⟩
  rw [List.getElem?_cons_succ, List.getElem?_take, if_pos hi]
  exact hy
theorem chain_get' {start x : Id} {hops p : List Id} (h : p ++ [x] = start :: hops.take hops.length) (owner : Id) : ((p ++ [x]) ++ [owner])[0]? = some start ∧ (∀ i y, i < hops.length → hops[i]? = some y → ((p ++ [x]) ++ [owner])[i + 1]? = some y) ∧ ((p ++ [x]) ++ [owner])[hops.length + 1]? = some owner := by
  obtain ⟨h0, h1⟩ := chain_get h
  have hl : (p ++ [x]).length = hops.length + 1 := by rw [h]; simp
  refine ⟨?_, fun i y hi hy => ?_, ?_⟩
  · rw [List.getElem?_append_left (by omega)]
    exact h0
  · rw [List.getElem?_append_left (by omega)]
    exact h1 i y hi hy
  · rw [List.getElem?_append_right (by omega), hl]
    simp

set_option maxRecDepth 100000 in
/-- The law's early ways. -/
theorem topD_early (start key owner : Id) (a : Option Addr) (n c : Nat) (w : World) (h : ¬ n ≤ 4096) :
    Calls Tryd.prog 6 #[idV start, idV key, .slice a n c, idV owner] w fun e w' => TopPost w e w' := by
  go_enter Tryd.func6, Tryd.ntmps6
  go_wp2_with fail
  obtain ⟨w2, hw2⟩ : ∃ z, z = ((w.alloc (box start 23)).alloc (box key 23)).alloc (box owner 23) := ⟨_, rfl⟩
  rw [← hw2]
  have HB2 := hide (show Below w.heap.size w w2 by rw [hw2]; exact (boxes3 w start key owner 23).2.2.2.2)
  clear hw2
  refine (bytes17_any start key owner a n c w2).mono ?_
  rintro e w3 ⟨⟨r, rfl, hr⟩, hb3⟩
  have HB3 := hide (HB2.out.trans (hb3.mono HB2.out.size))
  clear hb3 HB2 hr
  cases r
  · go_wp2
    go_ret
    exact ⟨rfl, HB3.out⟩
  · go_wp2
    go_ret
    exact ⟨rfl, HB3.out⟩

set_option maxRecDepth 100000 in
set_option maxHeartbeats 3200000 in
theorem topD_main (start key owner : Id) (a : Option Addr) (c : Nat) (hops : List Id) (w : World) (hg : Glob0 w) (ws : start.wf) (wk : key.wf) (wo : owner.wf) (wn : ∀ y, y ∈ hops → y.wf) (hn : hops.length ≤ 4096)
    (hI : Ids w w.heap.size (.slice a hops.length c) hops) :
    Calls Tryd.prog 6 #[idV start, idV key, .slice a hops.length c, idV owner] w fun e w' => TopPost w e w' := by
  have HX := hide (And.intro ws (And.intro wk (And.intro wo wn)))
  have HG := hide hg
  have HI := hide hI
  clear ws wk wo wn hg hI
  go_enter Tryd.func6, Tryd.ntmps6
  go_wp2_with fail
  obtain ⟨w2, hw2⟩ : ∃ z, z = ((w.alloc (box start 23)).alloc (box key 23)).alloc (box owner 23) := ⟨_, rfl⟩
  rw [← hw2]
  obtain ⟨b1, b2, b3, hs2, hb2⟩ : IdAt w2 w.heap.size 0 start ∧ IdAt w2 (w.heap.size + 1) 0 key ∧ IdAt w2 (w.heap.size + 1 + 1) 0 owner ∧ w2.heap.size = w.heap.size + 1 + 1 + 1 ∧ Below w.heap.size w w2 := by
    rw [hw2]; exact boxes3 w start key owner 23
  have B1 := hide b1
  have B2 := hide b2
  have B3 := hide b3
  have HB2 := hide hb2
  clear hw2 b1 b2 b3 hb2
  refine (bytes17_any start key owner a hops.length c w2).mono ?_
  rintro e w25 ⟨⟨r, rfl, hr⟩, hb25⟩
  obtain rfl : r = true := hr hn
  have hs25 := hb25.size
  go_upto_region 6 with fail
  obtain ⟨w3, hw3⟩ : ∃ z, z = w25.alloc (.cells #[.int .u64 0, .int .u64 0, .int .u64 0, .int .u64 0] 23) := ⟨_, rfl⟩
  rw [← hw3]
  have b253 : Below w25.heap.size w25 w3 := by rw [hw3]; exact (Below.refl _ _).alloc (Nat.le_refl _) _
  have ZB := hide (show IdAt w3 w25.heap.size 0 zero by rw [hw3]; exact idAt_new w25 zero 23)
  have hs3 : w3.heap.size = w25.heap.size + 1 := by rw [hw3]; simp
  have b23 := hb25.trans (b253.mono hb25.size)
  have C1 := hide (B1.out.later b23 (by omega))
  have C2 := hide (B2.out.later b23 (by omega))
  have C3 := hide (B3.out.later b23 (by omega))
  have HB3 := hide (HB2.out.trans (b23.mono HB2.out.size))
  clear hb25 HB2 hr B1 B2 B3 hw3 b253 b23
  go_cut [10] from 22 (fun s wx => ∃ bw F, s = .pointer (some ⟨bw, 0, none⟩) ∧ Hid (Walk wx F bw key [start] [] false false) ∧ Hid (Below w3.heap.size w3 wx) ∧ Hid (∀ k, k < w3.heap.size → ¬ F k))
  case first =>
    have MK := hide (show ∀ W, Below w3.heap.size w3 W → (Below w3.heap.size w3 W ∧ (W.cell? ⟨w.heap.size, 0, none⟩ = some (.int .u64 start.a) ∧ W.cell? ⟨w.heap.size, 1, none⟩ = some (.int .u64 start.b) ∧ W.cell? ⟨w.heap.size, 2, none⟩ = some (.int .u64 start.c) ∧ W.cell? ⟨w.heap.size, 3, none⟩ = some (.int .u64 start.d)) ∧ (W.cell? ⟨w.heap.size + 1, 0, none⟩ = some (.int .u64 key.a) ∧ W.cell? ⟨w.heap.size + 1, 1, none⟩ = some (.int .u64 key.b) ∧ W.cell? ⟨w.heap.size + 1, 2, none⟩ = some (.int .u64 key.c) ∧ W.cell? ⟨w.heap.size + 1, 3, none⟩ = some (.int .u64 key.d))) from fun W hW => ⟨hW, (C1.out.later hW (by omega)).cells0, (C2.out.later hW (by omega)).cells0⟩)
    refine wp_region_held_drew (S := fun W => Below w3.heap.size w3 W ∧ (W.cell? ⟨w.heap.size, 0, none⟩ = some (.int .u64 start.a) ∧ W.cell? ⟨w.heap.size, 1, none⟩ = some (.int .u64 start.b) ∧ W.cell? ⟨w.heap.size, 2, none⟩ = some (.int .u64 start.c) ∧ W.cell? ⟨w.heap.size, 3, none⟩ = some (.int .u64 start.d)) ∧ (W.cell? ⟨w.heap.size + 1, 0, none⟩ = some (.int .u64 key.a) ∧ W.cell? ⟨w.heap.size + 1, 1, none⟩ = some (.int .u64 key.b) ∧ W.cell? ⟨w.heap.size + 1, 2, none⟩ = some (.int .u64 key.c) ∧ W.cell? ⟨w.heap.size + 1, 3, none⟩ = some (.int .u64 key.d))) (by kernel_rfl) ?_ (fun hHeld => ?_)
    · exact MK.out _ (below_drew _)
    refine wpAnyH_take (i := 0) (v := (idV start)) rfl (by kernel_rfl) (by kernel_rfl) (by kernel_rfl) (fun _ _ _ h => h) (Or.inl ⟨by rfl, ?_⟩) hHeld ?_
    · intro w hSw; try dsimp only at hSw
      go_simp
    try simp only [Act.put, List.getElem_toArray, List.getElem_cons_zero, List.getElem_cons_succ, List.setIfInBounds_toArray, List.set_cons_zero, List.set_cons_succ]
    refine wpAnyH_take (i := 2) (v := (idV key)) rfl (by kernel_rfl) (by kernel_rfl) (by kernel_rfl) (fun _ _ _ h => h) (Or.inl ⟨by rfl, ?_⟩) hHeld ?_
    · intro w hSw; try dsimp only at hSw
      go_simp
    try simp only [Act.put, List.getElem_toArray, List.getElem_cons_zero, List.getElem_cons_succ, List.setIfInBounds_toArray, List.set_cons_zero, List.set_cons_succ]
    refine wpAnyH_ready (rs := [1]) (by kernel_rfl) (by simp) ?_
    refine AllReadyH.cons rfl (fun K hK => ?_) AllReadyH.nil
    go_simp
    refine (newID_any start _).mono ?_
    rintro e w4 ⟨rfl, hb4⟩
    refine hK.out _ _ ?_ (fun hHeld => ?_)
    · exact MK.out _ ((below_drew w3).trans hb4)
    clear hK K
    try simp only [Act.put, List.getElem_toArray, List.getElem_cons_zero, List.getElem_cons_succ, List.setIfInBounds_toArray, List.set_cons_zero, List.set_cons_succ]
    refine wpAnyH_ready (rs := [3]) (by kernel_rfl) (by simp) ?_
    refine AllReadyH.cons rfl (fun K hK => ?_) AllReadyH.nil
    go_simp
    refine (newID_any key _).mono ?_
    rintro e w5 ⟨rfl, hb5⟩
    refine hK.out _ _ ?_ (fun hHeld => ?_)
    · exact MK.out _ (((below_drew w3).trans hb4).trans (hb5.mono ((below_drew w3).trans hb4).size))
    clear hK K
    try simp only [Act.put, List.getElem_toArray, List.getElem_cons_zero, List.getElem_cons_succ, List.setIfInBounds_toArray, List.set_cons_zero, List.set_cons_succ]
    have h5 : Below w3.heap.size w3 w5 := ((below_drew w3).trans hb4).trans (hb5.mono ((below_drew w3).trans hb4).size)
    refine wpAnyH_ready (rs := [4]) (by kernel_rfl) (by simp) ?_
    refine AllReadyH.cons rfl (fun K hK => ?_) AllReadyH.nil
    go_simp
    refine (beginAt_any start key _).mono ?_
    rintro e w6 ⟨bw, F, rfl, hw6, hb6, hF6⟩
    refine hK.out _ _ ?_ (fun hHeld => ?_)
    · exact MK.out _ (h5.trans (hb6.mono h5.size))
    clear hK K
    try simp only [Act.put, List.getElem_toArray, List.getElem_cons_zero, List.getElem_cons_succ, List.setIfInBounds_toArray, List.set_cons_zero, List.set_cons_succ]
    refine wpAnyH_take (i := 5) (v := (.pointer (some ⟨bw, 0, none⟩))) rfl (by kernel_rfl) (by kernel_rfl) (by kernel_rfl) (fun _ _ _ h => h) (Or.inl ⟨by rfl, ?_⟩) hHeld ?_
    · intro w hSw; try dsimp only at hSw
      go_simp
    try simp only [Act.put, List.getElem_toArray, List.getElem_cons_zero, List.getElem_cons_succ, List.setIfInBounds_toArray, List.set_cons_zero, List.set_cons_succ]
    refine wpAnyH_done (by kernel_rfl) ?_ _
    go_wp2_with fail
    go_meet
    exact ⟨bw, F, rfl, hide hw6, hide (h5.trans (hb6.mono h5.size)), hide (fun k hk => hF6 k (Nat.lt_of_lt_of_le hk h5.size))⟩
  case rest =>
  obtain ⟨bw, F, rfl, hw4, hb4, hF4⟩ := hcut
  rename World => w4
  have G4 := hide (show Glob w4 F from by
    obtain ⟨g1, ⟨v0, e0, c0⟩, v1, e1, c1⟩ := HG.out
    have hb := HB3.out.trans (hb4.out.mono HB3.out.size)
    exact ⟨hF4.out 0 (by omega), hF4.out 1 (by omega), Nat.lt_of_lt_of_le g1 hb.size, ⟨v0, e0, (hb.cell (p := ⟨0, 0, none⟩) (by simp; omega)).trans c0⟩, v1, e1, (hb.cell (p := ⟨1, 0, none⟩) (by simp; omega)).trans c1⟩)
  obtain ⟨s0, s1, s2, s3⟩ := (C1.out.later hb4.out (by omega)).cells0
  have hs4 : w.heap.size < w4.heap.size := by have := hb4.out.size; omega
  have hs34 := hb4.out.size
  go_wp2_with fail
  obtain ⟨w5, hw5⟩ : ∃ z, z = w4.alloc (box start 23) := ⟨_, rfl⟩
  rw [← hw5]
  obtain ⟨F0, hF0⟩ : ∃ z, z = fun k => F k ∧ k < w4.heap.size := ⟨_, rfl⟩
  have b45 : Below w4.heap.size w4 w5 := by rw [hw5]; exact (Below.refl _ _).alloc (Nat.le_refl _) _
  have hF5 := hide (show ∀ k, k < w3.heap.size → ¬ F0 k by rw [hF0]; intro k hk h; exact hF4.out k hk h.1)
  have h24 : 2 ≤ w4.heap.size := G4.out.2.2.1
  have LV := hide (show LiveD w4 F0 bw w4.heap.size key w5 [] start from by
    have W4 : Walk w4 F0 bw key [start] [] false false := by rw [hF0]; exact hw4.out.shrink
    have GG : Glob w4 F0 := by rw [hF0]; exact G4.out.step (Step.shrink (Step.of_below F (Below.refl _ w4)))
    refine ⟨F0, Step.of_below F0 b45, GG.step (Step.of_below F0 b45), fun j hj => ?_, W4.below b45, Nat.le_refl _, by rw [hw5]; simp, ?_, ?_, fun j hj => ?_⟩
    · rw [hF0] at hj
      exact Nat.lt_of_lt_of_le hj.2 b45.size
    · rw [hF0]
      rintro ⟨_, h⟩
      omega
    · rw [hw5]
      exact idAt_new w4 start 23
    · rw [hw5]
      match j, hj with
      | 0, _ => go_simp
      | 1, _ => go_simp
      | 2, _ => go_simp
      | 3, _ => go_simp)
  clear hw5 hF0 b45 hw4 G4 hF4 s0 s1 s2 s3 hs4
  go_loopw [12] (fun jv wr => ∃ (j : Nat) (p : List Id) (x : Id), j ≤ hops.length ∧ jv = .int .i64 j ∧ Hid (LiveD w4 F0 bw w4.heap.size key wr p x) ∧ Hid (p ++ [x] = start :: hops.take j)) (fun jv _ => hops.length - (intOf jv).toNat)
  case atStart => exact ⟨0, [], start, Nat.zero_le _, rfl, LV, hide (by simp)⟩
  case round =>
    clear LV
    rename World => wr
    obtain ⟨j, p, x, hj, rfl, HL, HP⟩ := hrel
    have HU := hide (HL.out.under hb4.out hF5.out)
    have hU := HU.out.size
    have hpl : p.length = j := by
      have := congrArg List.length HP.out
      simp at this
      omega
    have HXX := hide (show x.wf from by
      have h : x ∈ p ++ [x] := by simp
      rw [HP.out] at h
      rcases List.mem_cons.1 h with h | h
      · rw [h]; exact HX.out.1
      · exact HX.out.2.2.2 x (List.mem_of_mem_take h))
    by_cases hlt : j < hops.length
    · obtain ⟨y, hy⟩ : ∃ y, hops[j]? = some y := ⟨_, List.getElem?_eq_getElem hlt⟩
      have wy := hide (HX.out.2.2.2 y (List.mem_of_getElem? hy))
      have BW := HB3.out.trans (HU.out.mono HB3.out.size)
      obtain ⟨a1, c1, he, hall⟩ := HI.out.later BW (Nat.le_refl _)
      simp at he
      obtain ⟨rfl, rfl⟩ := he
      obtain ⟨ba, off, rfl, hba, hi⟩ := hall j y hy
      obtain ⟨y0, y1, y2, y3⟩ := hi.cellsAt
      have HY := hide hy
      obtain ⟨F1, S1, G1, L1, W1, H5, H6, H7, H8⟩ := HL.out
      obtain ⟨x0, x1, x2, x3⟩ := H8.1.cells0
      obtain ⟨k0, k1, k2, k3⟩ := (C2.out.later HU.out (by omega)).cells0
      have hk1 : w.heap.size + 1 < wr.heap.size := by omega
      have HS := hide (And.intro S1 (And.intro G1 (And.intro L1 (And.intro W1 (And.intro H5 (And.intro H6 (And.intro H7 H8)))))))
      clear S1 G1 L1 W1 H5 H7 H8 hall hi hy BW
      go_wp2_with fail
      obtain ⟨w7, hw7⟩ : ∃ z, z = wr.alloc (box y 23) := ⟨_, rfl⟩
      rw [← hw7]
      have b7 : Below wr.heap.size wr w7 := by rw [hw7]; exact (Below.refl _ _).alloc (Nat.le_refl _) _
      have Y7 := hide (show IdAt w7 wr.heap.size 0 y by rw [hw7]; exact idAt_new wr y 23)
      have hs7 : wr.heap.size < w7.heap.size := by rw [hw7]; simp
      clear hw7 x0 x1 x2 x3 y0 y1 y2 y3 k0 k1 k2 k3 hba
      refine (zzInOpen_any y x key w7 wy.out HXX.out HX.out.2.1).mono ?_
      rintro e w8 ⟨rfl, hb8⟩
      have hs8 := hb8.size
      have b8 := hide (b7.trans (hb8.mono b7.size))
      have Y8 := hide (Y7.out.later hb8 hs7)
      clear Y7 hb8 b7
      by_cases hio : InOpen y x key
      · rw [decide_eq_true hio]
        have HIO := hide hio
        clear hio
        go_wp2_with fail
        refine (next_on F1 bw key p [] x w8 (Walk.below HS.out.2.2.2.1 b8.out) (by omega)).mono ?_
        rintro e w9 ⟨rfl, hb9⟩
        have hs9 := hb9.size
        have b9 := hide (b8.out.trans (hb9.mono b8.out.size))
        have Y9 := hide (Y8.out.later hb9 (by omega))
        clear Y8 hb9 b8
        go_upto_region 13 with fail
        obtain ⟨w10, hw10⟩ : ∃ z, z = w9.alloc (box x 27) := ⟨_, rfl⟩
        rw [← hw10]
        have bbw10 : Below w9.heap.size w9 w10 := by rw [hw10]; exact (Below.refl _ _).alloc (Nat.le_refl _) _
        have hsw10 : w9.heap.size < w10.heap.size := by rw [hw10]; simp
        have N10 := hide (show IdAt w10 w9.heap.size 0 x by rw [hw10]; exact idAt_new w9 x 27)
        have b10 := hide (b9.out.trans (bbw10.mono b9.out.size))
        have Y10 := hide (Y9.out.later bbw10 (by omega))
        clear hw10 bbw10 Y9 b9
        go_cut [62] from 37 to 70 (fun s wx => s = .bool false ∧ Hid (Below w10.heap.size w10 wx))
        case first =>
          have t : same4 x.a x.b x.c x.d x.a x.b x.c x.d = true := by rw [same4_ids]; simp
          have MK := hide (show ∀ W, Below w10.heap.size w10 W → (Below w10.heap.size w10 W ∧ (W.cell? ⟨w4.heap.size, 0, none⟩ = some (.int .u64 x.a) ∧ W.cell? ⟨w4.heap.size, 1, none⟩ = some (.int .u64 x.b) ∧ W.cell? ⟨w4.heap.size, 2, none⟩ = some (.int .u64 x.c) ∧ W.cell? ⟨w4.heap.size, 3, none⟩ = some (.int .u64 x.d)) ∧ (W.cell? ⟨w9.heap.size, 0, none⟩ = some (.int .u64 x.a) ∧ W.cell? ⟨w9.heap.size, 1, none⟩ = some (.int .u64 x.b) ∧ W.cell? ⟨w9.heap.size, 2, none⟩ = some (.int .u64 x.c) ∧ W.cell? ⟨w9.heap.size, 3, none⟩ = some (.int .u64 x.d))) from fun W hW => ⟨hW, (HS.out.2.2.2.2.2.2.2.1.later (b10.out.trans (hW.mono b10.out.size)) H6).cells0, (N10.out.later hW (by omega)).cells0⟩)
          refine wp_region_held_drew (S := fun W => Below w10.heap.size w10 W ∧ (W.cell? ⟨w4.heap.size, 0, none⟩ = some (.int .u64 x.a) ∧ W.cell? ⟨w4.heap.size, 1, none⟩ = some (.int .u64 x.b) ∧ W.cell? ⟨w4.heap.size, 2, none⟩ = some (.int .u64 x.c) ∧ W.cell? ⟨w4.heap.size, 3, none⟩ = some (.int .u64 x.d)) ∧ (W.cell? ⟨w9.heap.size, 0, none⟩ = some (.int .u64 x.a) ∧ W.cell? ⟨w9.heap.size, 1, none⟩ = some (.int .u64 x.b) ∧ W.cell? ⟨w9.heap.size, 2, none⟩ = some (.int .u64 x.c) ∧ W.cell? ⟨w9.heap.size, 3, none⟩ = some (.int .u64 x.d))) (by kernel_rfl) ?_ (fun hHeld => ?_)
          · exact MK.out _ (below_drew _)
          refine wpAnyH_take (i := 0) (v := (.bool true)) rfl (by kernel_rfl) (by kernel_rfl) (by kernel_rfl) (fun _ _ _ h => h) (Or.inl ⟨by rfl, ?_⟩) hHeld ?_
          · intro w hSw; try dsimp only at hSw
            go_simp
          try simp only [Act.put, List.getElem_toArray, List.getElem_cons_zero, List.getElem_cons_succ, List.setIfInBounds_toArray, List.set_cons_zero, List.set_cons_succ]
          refine wpAnyH_take (i := 1) (v := (.bool false)) rfl (by kernel_rfl) (by kernel_rfl) (by kernel_rfl) (fun _ _ _ h => h) (Or.inl ⟨by rfl, ?_⟩) hHeld ?_
          · intro w hSw; try dsimp only at hSw
            go_simp
          try simp only [Act.put, List.getElem_toArray, List.getElem_cons_zero, List.getElem_cons_succ, List.setIfInBounds_toArray, List.set_cons_zero, List.set_cons_succ]
          refine wpAnyH_take (i := 2) (v := (.bool false)) rfl (by kernel_rfl) (by kernel_rfl) (by kernel_rfl) (fun _ _ _ h => h) (Or.inl ⟨by rfl, ?_⟩) hHeld ?_
          · intro w hSw; try dsimp only at hSw
            go_simp
          try simp only [Act.put, List.getElem_toArray, List.getElem_cons_zero, List.getElem_cons_succ, List.setIfInBounds_toArray, List.set_cons_zero, List.set_cons_succ]
          refine wpAnyH_take (i := 3) (v := (idV x)) rfl (by kernel_rfl) (by kernel_rfl) (by kernel_rfl) (fun _ _ _ h => h) (Or.inl ⟨by rfl, ?_⟩) hHeld ?_
          · intro w hSw; try dsimp only at hSw
            go_simp
          try simp only [Act.put, List.getElem_toArray, List.getElem_cons_zero, List.getElem_cons_succ, List.setIfInBounds_toArray, List.set_cons_zero, List.set_cons_succ]
          refine wpAnyH_take (i := 5) (v := (idV x)) rfl (by kernel_rfl) (by kernel_rfl) (by kernel_rfl) (fun _ _ _ h => h) (Or.inl ⟨by rfl, ?_⟩) hHeld ?_
          · intro w hSw; try dsimp only at hSw
            go_simp
          try simp only [Act.put, List.getElem_toArray, List.getElem_cons_zero, List.getElem_cons_succ, List.setIfInBounds_toArray, List.set_cons_zero, List.set_cons_succ]
          refine wpAnyH_ready (rs := [4]) (by kernel_rfl) (by simp) ?_
          refine AllReadyH.cons rfl (fun K hK => ?_) AllReadyH.nil
          go_simp
          refine (words_any x _).mono ?_
          rintro e w11 ⟨rfl, hb11⟩
          refine hK.out _ _ ?_ (fun hHeld => ?_)
          · exact MK.out _ ((below_drew w10).trans hb11)
          clear hK K
          try simp only [Act.put, List.getElem_toArray, List.getElem_cons_zero, List.getElem_cons_succ, List.setIfInBounds_toArray, List.set_cons_zero, List.set_cons_succ]
          refine wpAnyH_take (i := 6) (v := (.bool false)) rfl (by kernel_rfl) (by kernel_rfl) (by kernel_rfl) (fun _ _ _ h => h) (Or.inl ⟨by rfl, ?_⟩) hHeld ?_
          · intro w hSw; try dsimp only at hSw
            go_simp
          try simp only [Act.put, List.getElem_toArray, List.getElem_cons_zero, List.getElem_cons_succ, List.setIfInBounds_toArray, List.set_cons_zero, List.set_cons_succ]
          refine wpAnyH_take (i := 7) (v := (.bool false)) rfl (by kernel_rfl) (by kernel_rfl) (by kernel_rfl) (fun _ _ _ h => h) (Or.inl ⟨by rfl, ?_⟩) hHeld ?_
          · intro w hSw; try dsimp only at hSw
            go_simp
          try simp only [Act.put, List.getElem_toArray, List.getElem_cons_zero, List.getElem_cons_succ, List.setIfInBounds_toArray, List.set_cons_zero, List.set_cons_succ]
          refine wpAnyH_done (by kernel_rfl) ?_ _
          go_wp2_with fail
          go_meet
          exact ⟨rfl, hide ((below_drew w10).trans hb11)⟩
        case rest =>
        obtain ⟨rfl, hb11⟩ := hcut
        rename World => w11
        have hs11 := hb11.out.size
        have b11 := hide (b10.out.trans (hb11.out.mono b10.out.size))
        have Y11 := hide (Y10.out.later hb11.out (by omega))
        obtain ⟨y0, y1, y2, y3⟩ := Y11.out.cells0
        clear Y10 b10 hb11 N10
        go_wp2_with fail
        refine (newID_any y w11).mono ?_
        rintro e w12 ⟨rfl, hb12⟩
        have hs12 := hb12.size
        have b12 := b11.out.trans (hb12.mono b11.out.size)
        have Y12 := hide (Y11.out.later hb12 (by omega))
        clear Y11 b11 hb12 y0 y1 y2 y3
        obtain ⟨S1, G1, L1, W1, H5, H6', H7, H8⟩ := HS.out
        have PK := hide (show Walk w12 F1 bw key (p ++ [x]) [] false false ∧ Glob w12 F1 ∧ Step w4 w12 F0 F1 ∧ w4.heap.size ≤ w4.heap.size ∧ w4.heap.size < w12.heap.size ∧ ¬ F1 w4.heap.size ∧ Cur w12 w4.heap.size x ∧ ¬ F1 wr.heap.size from ⟨W1.below b12, G1.step (Step.of_below F1 b12), S1.trans (Step.of_below F1 b12), H5, Nat.lt_of_lt_of_le H6 b12.size, H7, H8.keep (b12.block _ H6), fun h => by have := L1 _ h; omega⟩)
        clear S1 G1 L1 W1 H5 H6' H7 H8 HS b12
        go_wp2_with fail
        refine (answer_any F1 bw key p [] x y false w12 PK.out.1 PK.out.2.1 (by omega) (by simp) HX.out.2.1 HXX.out wy.out).mono ?_
        rintro e w13 ⟨v, F2, rfl, hev, hh, hst⟩
        have ea : answer key p [] x y false = ⟨(p ++ [x]) ++ [y], [], false, false⟩ := by
          have hne : y ≠ x := fun e => not_inOpen_self x key (e ▸ HIO.out)
          simp [answer, hne, HIO.out]
        rw [ea] at hev hh
        obtain ⟨_, Q1, Q2, Q3, Q4, Q5, Q6, Q7⟩ := PK.out
        have LV := hide (LiveD.hop Q2 Q1 Q3 Q4 Q5 Q6 hst hh h24)
        have C13 := Q6.keep (hst.block _ Q4 Q5)
        obtain ⟨x0, x1, x2, x3⟩ := C13.1.cells0
        have f0 := C13.2 0 (by omega)
        have f1 := C13.2 1 (by omega)
        have f2 := C13.2 2 (by omega)
        have f3 := C13.2 3 (by omega)
        obtain ⟨y0, y1, y2, y3⟩ := (Y12.out.keep (hst.block _ (by omega) Q7)).cells0
        have hs13 := hst.size
        clear Q1 Q2 Q3 Q4 Q5 Q6 Q7 hst hh PK Y12 ea C13
        rcases hev with ⟨_, rfl⟩ | ⟨h, _⟩
        · go_wp2
          go_roundw
          case rel =>
            refine ⟨j + 1, p ++ [x], y, by omega, by go_num, LV, hide ?_⟩
            rw [HP.out, List.take_add_one, HY.out]
            rfl
          case measure => simp [intOf]; omega
        · simp at h
      · rw [decide_eq_false hio]
        clear hio
        have hne2 : ((j : Int) == (hops.length : Int)) = false := by simp; omega
        have hne3 : ¬ ((j : Int) = (hops.length : Int)) := by omega
        go_wp2_with fail
        refine (next_on F1 bw key p [] x w8 (Walk.below HS.out.2.2.2.1 b8.out) (by omega)).mono ?_
        rintro e w9 ⟨rfl, hb9⟩
        have hs9 := hb9.size
        have b9 := hide (b8.out.trans (hb9.mono b8.out.size))
        clear Y8 hb9 b8
        go_wp2_with fail
        obtain ⟨w10, hw10⟩ : ∃ z, z = w9.alloc (box x 27) := ⟨_, rfl⟩
        rw [← hw10]
        have bbw10 : Below w9.heap.size w9 w10 := by rw [hw10]; exact (Below.refl _ _).alloc (Nat.le_refl _) _
        have hsw10 : w9.heap.size < w10.heap.size := by rw [hw10]; simp
        have N10 := hide (show IdAt w10 w9.heap.size 0 x by rw [hw10]; exact idAt_new w9 x 27)
        have b10 := b9.out.trans (bbw10.mono b9.out.size)
        have HU10 := hide (HU.out.trans (b10.mono HU.out.size))
        have CU10 := hide (HS.out.2.2.2.2.2.2.2.1.later b10 H6)
        have WK10 := hide (HS.out.2.2.2.1.below b10)
        clear hw10 bbw10 b9 b10 HS
        refine (result_open F1 bw key (p ++ [x]) [] false w10 WK10.out).mono ?_
        rintro e w11 ⟨vp, rfl, hr11, hb11⟩
        clear WK10
        have hLL : (p ++ [x]).length = j + 1 := by simp [hpl]
        rcases hr11 with ⟨_, h⟩ | ⟨gq, capq, hv, hgq, r1, r2, r3, r4⟩
        · rw [h] at hLL
          simp at hLL
        rw [hLL] at hv
        subst hv
        have hcq : j + 1 ≤ capq := by rw [← hLL]; exact r1
        have R11 := hide r4
        have hs11 := hb11.size
        clear r1 r2 r3 r4
        go_upto_region 28 with fail
        obtain ⟨w12, hw12⟩ : ∃ z, z = w11.alloc (.cells #[.slice (some ⟨gq, 0, none⟩) (j + 1) capq, .int .u64 0, .int .u64 0, .int .u64 0, .int .u64 0, .int .i64 0] 43) := ⟨_, rfl⟩
        rw [← hw12]
        have bbw12 : Below w11.heap.size w11 w12 := by rw [hw12]; exact (Below.refl _ _).alloc (Nat.le_refl _) _
        have hsw12 : w11.heap.size < w12.heap.size := by rw [hw12]; simp
        have RB := hide (show (w12.cell? ⟨w11.heap.size, 0, none⟩ = some (.slice (some ⟨gq, 0, none⟩) (j + 1) capq) ∧ w12.cell? ⟨w11.heap.size, 1, none⟩ = some (.int .u64 0) ∧ w12.cell? ⟨w11.heap.size, 2, none⟩ = some (.int .u64 0) ∧ w12.cell? ⟨w11.heap.size, 3, none⟩ = some (.int .u64 0) ∧ w12.cell? ⟨w11.heap.size, 4, none⟩ = some (.int .u64 0) ∧ w12.cell? ⟨w11.heap.size, 5, none⟩ = some (.int .i64 0)) by rw [hw12]; exact ⟨by go_simp, by go_simp, by go_simp, by go_simp, by go_simp, by go_simp⟩)
        have R12 := hide (show ∀ i y, (p ++ [x])[i]? = some y → IdAt w12 gq (i * 4) y from fun i y h => (R11.out i y h).later bbw12 hgq)
        have hgq2 : gq < w12.heap.size := by omega
        have b1012 := (hb11.trans (bbw12.mono hb11.size))
        have HU12 := hide (HU10.out.trans (b1012.mono HU10.out.size))
        have hU12 := HU12.out.size
        have N12 := hide (N10.out.later b1012 (by omega))
        have CU12 := hide (CU10.out.later b1012 (by omega))
        have S12 := hide (C1.out.later HU12.out (by omega))
        have Z12 := hide (ZB.out.later HU12.out (by omega))
        have HW12 := hide (HB3.out.trans (HU12.out.mono HB3.out.size))
        clear hw12 bbw12 R11 hb11 b1012 HU10 N10 CU10
        have PF := hide (chain_get HP.out)
        go_cut [106] from 22 (fun s wx => s = .bool false ∧ Hid (Below w12.heap.size w12 wx))
        case first =>
          have t : same4 start.a start.b start.c start.d start.a start.b start.c start.d = true := by rw [same4_ids]; simp
          have MK := hide (show ∀ W, Below w12.heap.size w12 W → (Below w12.heap.size w12 W ∧ (W.cell? ⟨w11.heap.size, 0, none⟩ = some (.slice (some ⟨gq, 0, none⟩) (j + 1) capq) ∧ W.cell? ⟨w11.heap.size, 1, none⟩ = some (.int .u64 0) ∧ W.cell? ⟨w11.heap.size, 2, none⟩ = some (.int .u64 0) ∧ W.cell? ⟨w11.heap.size, 3, none⟩ = some (.int .u64 0) ∧ W.cell? ⟨w11.heap.size, 4, none⟩ = some (.int .u64 0) ∧ W.cell? ⟨w11.heap.size, 5, none⟩ = some (.int .i64 0)) ∧ (W.cell? ⟨w.heap.size, 0, none⟩ = some (.int .u64 start.a) ∧ W.cell? ⟨w.heap.size, 1, none⟩ = some (.int .u64 start.b) ∧ W.cell? ⟨w.heap.size, 2, none⟩ = some (.int .u64 start.c) ∧ W.cell? ⟨w.heap.size, 3, none⟩ = some (.int .u64 start.d)) ∧ (W.cell? ⟨gq, 0, none⟩ = some (.int .u64 start.a) ∧ W.cell? ⟨gq, 1, none⟩ = some (.int .u64 start.b) ∧ W.cell? ⟨gq, 2, none⟩ = some (.int .u64 start.c) ∧ W.cell? ⟨gq, 3, none⟩ = some (.int .u64 start.d))) from fun W hW => ⟨hW, (by obtain ⟨h0, h1, h2, h3, h4, h5⟩ := RB.out; exact ⟨(hW.cell (p := ⟨w11.heap.size, 0, none⟩) (by simp; omega)).trans h0, (hW.cell (p := ⟨w11.heap.size, 1, none⟩) (by simp; omega)).trans h1, (hW.cell (p := ⟨w11.heap.size, 2, none⟩) (by simp; omega)).trans h2, (hW.cell (p := ⟨w11.heap.size, 3, none⟩) (by simp; omega)).trans h3, (hW.cell (p := ⟨w11.heap.size, 4, none⟩) (by simp; omega)).trans h4, (hW.cell (p := ⟨w11.heap.size, 5, none⟩) (by simp; omega)).trans h5⟩), (S12.out.later hW (by omega)).cells0, (by have h := (R12.out 0 start PF.out.1).later hW (by omega); rw [Nat.zero_mul] at h; exact h.cells0)⟩)
          refine wp_region_held_drew (S := fun W => Below w12.heap.size w12 W ∧ (W.cell? ⟨w11.heap.size, 0, none⟩ = some (.slice (some ⟨gq, 0, none⟩) (j + 1) capq) ∧ W.cell? ⟨w11.heap.size, 1, none⟩ = some (.int .u64 0) ∧ W.cell? ⟨w11.heap.size, 2, none⟩ = some (.int .u64 0) ∧ W.cell? ⟨w11.heap.size, 3, none⟩ = some (.int .u64 0) ∧ W.cell? ⟨w11.heap.size, 4, none⟩ = some (.int .u64 0) ∧ W.cell? ⟨w11.heap.size, 5, none⟩ = some (.int .i64 0)) ∧ (W.cell? ⟨w.heap.size, 0, none⟩ = some (.int .u64 start.a) ∧ W.cell? ⟨w.heap.size, 1, none⟩ = some (.int .u64 start.b) ∧ W.cell? ⟨w.heap.size, 2, none⟩ = some (.int .u64 start.c) ∧ W.cell? ⟨w.heap.size, 3, none⟩ = some (.int .u64 start.d)) ∧ (W.cell? ⟨gq, 0, none⟩ = some (.int .u64 start.a) ∧ W.cell? ⟨gq, 1, none⟩ = some (.int .u64 start.b) ∧ W.cell? ⟨gq, 2, none⟩ = some (.int .u64 start.c) ∧ W.cell? ⟨gq, 3, none⟩ = some (.int .u64 start.d))) (by kernel_rfl) ?_ (fun hHeld => ?_)
          · exact MK.out _ (below_drew _)
          refine wpAnyH_take (i := 0) (v := (.pointer (some ⟨w11.heap.size, 0, none⟩))) rfl (by kernel_rfl) (by kernel_rfl) (by kernel_rfl) (fun _ _ _ h => h) (Or.inl ⟨by rfl, ?_⟩) hHeld ?_
          · intro w hSw; try dsimp only at hSw
            go_simp
          try simp only [Act.put, List.getElem_toArray, List.getElem_cons_zero, List.getElem_cons_succ, List.setIfInBounds_toArray, List.set_cons_zero, List.set_cons_succ]
          refine wpAnyH_take (i := 1) (v := (.slice (some ⟨gq, 0, none⟩) (j + 1) capq)) rfl (by kernel_rfl) (by kernel_rfl) (by kernel_rfl) (fun _ _ _ h => h) (Or.inl ⟨by rfl, ?_⟩) hHeld ?_
          · intro w hSw; try dsimp only at hSw
            go_simp
          try simp only [Act.put, List.getElem_toArray, List.getElem_cons_zero, List.getElem_cons_succ, List.setIfInBounds_toArray, List.set_cons_zero, List.set_cons_succ]
          refine wpAnyH_take (i := 2) (v := (.int .i64 (((j : Nat) : Int) + 1))) rfl (by kernel_rfl) (by kernel_rfl) (by kernel_rfl) (fun _ _ _ h => h) (Or.inl ⟨by rfl, ?_⟩) hHeld ?_
          · intro w hSw; try dsimp only at hSw
            go_simp
          try simp only [Act.put, List.getElem_toArray, List.getElem_cons_zero, List.getElem_cons_succ, List.setIfInBounds_toArray, List.set_cons_zero, List.set_cons_succ]
          refine wpAnyH_take (i := 3) (v := (.int .i64 (((j : Nat) : Int) + 1))) rfl (by kernel_rfl) (by kernel_rfl) (by kernel_rfl) (fun _ _ _ h => h) (Or.inl ⟨by rfl, ?_⟩) hHeld ?_
          · intro w hSw; try dsimp only at hSw
            go_simp
          try simp only [Act.put, List.getElem_toArray, List.getElem_cons_zero, List.getElem_cons_succ, List.setIfInBounds_toArray, List.set_cons_zero, List.set_cons_succ]
          refine wpAnyH_take (i := 4) (v := (.bool false)) rfl (by kernel_rfl) (by kernel_rfl) (by kernel_rfl) (fun _ _ _ h => h) (Or.inl ⟨by rfl, ?_⟩) hHeld ?_
          · intro w hSw; try dsimp only at hSw
            go_simp
          try simp only [Act.put, List.getElem_toArray, List.getElem_cons_zero, List.getElem_cons_succ, List.setIfInBounds_toArray, List.set_cons_zero, List.set_cons_succ]
          refine wpAnyH_take (i := 5) (v := (.bool false)) rfl (by kernel_rfl) (by kernel_rfl) (by kernel_rfl) (fun _ _ _ h => h) (Or.inl ⟨by rfl, ?_⟩) hHeld ?_
          · intro w hSw; try dsimp only at hSw
            go_simp
          try simp only [Act.put, List.getElem_toArray, List.getElem_cons_zero, List.getElem_cons_succ, List.setIfInBounds_toArray, List.set_cons_zero, List.set_cons_succ]
          refine wpAnyH_take (i := 6) (v := (.pointer (some ⟨w11.heap.size, 0, none⟩))) rfl (by kernel_rfl) (by kernel_rfl) (by kernel_rfl) (fun _ _ _ h => h) (Or.inl ⟨by rfl, ?_⟩) hHeld ?_
          · intro w hSw; try dsimp only at hSw
            go_simp
          try simp only [Act.put, List.getElem_toArray, List.getElem_cons_zero, List.getElem_cons_succ, List.setIfInBounds_toArray, List.set_cons_zero, List.set_cons_succ]
          refine wpAnyH_take (i := 7) (v := (.slice (some ⟨gq, 0, none⟩) (j + 1) capq)) rfl (by kernel_rfl) (by kernel_rfl) (by kernel_rfl) (fun _ _ _ h => h) (Or.inl ⟨by rfl, ?_⟩) hHeld ?_
          · intro w hSw; try dsimp only at hSw
            go_simp
          try simp only [Act.put, List.getElem_toArray, List.getElem_cons_zero, List.getElem_cons_succ, List.setIfInBounds_toArray, List.set_cons_zero, List.set_cons_succ]
          refine wpAnyH_take (i := 8) (v := (.pointer (some ⟨gq, 0, none⟩))) rfl (by kernel_rfl) (by kernel_rfl) (by kernel_rfl) (fun _ _ _ h => h) (Or.inl ⟨by rfl, ?_⟩) hHeld ?_
          · intro w hSw; try dsimp only at hSw
            go_simp
            try (intro hbad; exfalso; omega)
          try simp only [Act.put, List.getElem_toArray, List.getElem_cons_zero, List.getElem_cons_succ, List.setIfInBounds_toArray, List.set_cons_zero, List.set_cons_succ]
          refine wpAnyH_take (i := 9) (v := (idV start)) rfl (by kernel_rfl) (by kernel_rfl) (by kernel_rfl) (fun _ _ _ h => h) (Or.inl ⟨by rfl, ?_⟩) hHeld ?_
          · intro w hSw; try dsimp only at hSw
            go_simp
          try simp only [Act.put, List.getElem_toArray, List.getElem_cons_zero, List.getElem_cons_succ, List.setIfInBounds_toArray, List.set_cons_zero, List.set_cons_succ]
          refine wpAnyH_take (i := 11) (v := (idV start)) rfl (by kernel_rfl) (by kernel_rfl) (by kernel_rfl) (fun _ _ _ h => h) (Or.inl ⟨by rfl, ?_⟩) hHeld ?_
          · intro w hSw; try dsimp only at hSw
            go_simp
          try simp only [Act.put, List.getElem_toArray, List.getElem_cons_zero, List.getElem_cons_succ, List.setIfInBounds_toArray, List.set_cons_zero, List.set_cons_succ]
          refine wpAnyH_ready (rs := [10]) (by kernel_rfl) (by simp) ?_
          refine AllReadyH.cons rfl (fun K hK => ?_) AllReadyH.nil
          go_simp
          refine (words_any start _).mono ?_
          rintro e w13 ⟨rfl, hb13⟩
          refine hK.out _ _ ?_ (fun hHeld => ?_)
          · exact MK.out _ ((below_drew w12).trans hb13)
          clear hK K
          try simp only [Act.put, List.getElem_toArray, List.getElem_cons_zero, List.getElem_cons_succ, List.setIfInBounds_toArray, List.set_cons_zero, List.set_cons_succ]
          refine wpAnyH_take (i := 12) (v := (.bool false)) rfl (by kernel_rfl) (by kernel_rfl) (by kernel_rfl) (fun _ _ _ h => h) (Or.inl ⟨by rfl, ?_⟩) hHeld ?_
          · intro w hSw; try dsimp only at hSw
            go_simp
          try simp only [Act.put, List.getElem_toArray, List.getElem_cons_zero, List.getElem_cons_succ, List.setIfInBounds_toArray, List.set_cons_zero, List.set_cons_succ]
          refine wpAnyH_take (i := 13) (v := (.bool false)) rfl (by kernel_rfl) (by kernel_rfl) (by kernel_rfl) (fun _ _ _ h => h) (Or.inl ⟨by rfl, ?_⟩) hHeld ?_
          · intro w hSw; try dsimp only at hSw
            go_simp
          try simp only [Act.put, List.getElem_toArray, List.getElem_cons_zero, List.getElem_cons_succ, List.setIfInBounds_toArray, List.set_cons_zero, List.set_cons_succ]
          refine wpAnyH_done (by kernel_rfl) ?_ _
          go_wp2_with fail
          go_meet
          exact ⟨rfl, hide ((below_drew w12).trans hb13)⟩
        case rest =>
        obtain ⟨rfl, hb13⟩ := hcut
        rename World => w13
        go_wp2_with fail
        go_loopw [21] (fun iv wq => ∃ i : Nat, i ≤ j ∧ iv = .int .i64 i ∧ Hid (Below w12.heap.size w12 wq)) (fun iv _ => j - (intOf iv).toNat)
        case atStart => exact ⟨0, Nat.zero_le _, rfl, hb13⟩
        case round =>
          clear hb13
          rename World => wq
          obtain ⟨i, hi, rfl, BQ⟩ := hrel
          have hsq := BQ.out.size
          by_cases hil : i < j
          · obtain ⟨z, hz⟩ : ∃ z, hops[i]? = some z := ⟨_, List.getElem?_eq_getElem (by omega)⟩
            have BWQ := HW12.out.trans (BQ.out.mono HW12.out.size)
            obtain ⟨a1, c1, he, hall⟩ := HI.out.later BWQ (Nat.le_refl _)
            simp at he
            obtain ⟨rfl, rfl⟩ := he
            obtain ⟨b2, off2, he2, hb2, hz2⟩ := hall i z hz
            have e2 : b2 = ba ∧ off2 = off := by simp at he2; exact ⟨he2.1.symm, he2.2.symm⟩
            rw [e2.1] at hb2
            rw [e2.1, e2.2] at hz2
            clear e2 he2
            have Z2 := hide hz2
            have hb3 : ba < wq.heap.size := by have := BWQ.size; omega
            have P2 := hide (PF.out.2 i z hil hz)
            clear hall hz2 hz BWQ
            have t : same4 z.a z.b z.c z.d z.a z.b z.c z.d = true := by rw [same4_ids]; simp
            have g1 : ¬ (((j : Nat) : Int) + 1 ≤ (i : Int) + 1) := by omega
            have g2 : ¬ (((j : Nat) : Int) + 1 + 1 ≤ (i : Int) + 1) := by omega
            have g3 : IntKind.i64.wrap ((i : Int) + 1) = (i : Int) + 1 := IntWalk.i64_in _ (by omega)
            have g4 : ¬ ((i : Int) + 1 < 0) := by omega
            have g6 : ¬ ((hops.length : Int) ≤ (i : Int)) := by omega
            have g5 : ((i : Int) + 1).toNat = i + 1 := by omega
            go_upto_region 33 with fail
            have MK := hide (show ∀ W, Below wq.heap.size wq W → (Below wq.heap.size wq W ∧ (W.cell? ⟨w11.heap.size, 0, none⟩ = some (.slice (some ⟨gq, 0, none⟩) (j + 1) capq) ∧ W.cell? ⟨w11.heap.size, 1, none⟩ = some (.int .u64 0) ∧ W.cell? ⟨w11.heap.size, 2, none⟩ = some (.int .u64 0) ∧ W.cell? ⟨w11.heap.size, 3, none⟩ = some (.int .u64 0) ∧ W.cell? ⟨w11.heap.size, 4, none⟩ = some (.int .u64 0) ∧ W.cell? ⟨w11.heap.size, 5, none⟩ = some (.int .i64 0)) ∧ (W.cell? ⟨gq, (i + 1) * 4, none⟩ = some (.int .u64 z.a) ∧ W.cell? ⟨gq, (i + 1) * 4 + 1, none⟩ = some (.int .u64 z.b) ∧ W.cell? ⟨gq, (i + 1) * 4 + 2, none⟩ = some (.int .u64 z.c) ∧ W.cell? ⟨gq, (i + 1) * 4 + 3, none⟩ = some (.int .u64 z.d)) ∧ (W.cell? ⟨ba, off + i * 4, none⟩ = some (.int .u64 z.a) ∧ W.cell? ⟨ba, off + i * 4 + 1, none⟩ = some (.int .u64 z.b) ∧ W.cell? ⟨ba, off + i * 4 + 2, none⟩ = some (.int .u64 z.c) ∧ W.cell? ⟨ba, off + i * 4 + 3, none⟩ = some (.int .u64 z.d))) from fun W hW => ⟨hW, (by obtain ⟨h0, h1, h2, h3, h4, h5⟩ := RB.out; exact ⟨((BQ.out.trans (hW.mono BQ.out.size)).cell (p := ⟨w11.heap.size, 0, none⟩) (by simp; omega)).trans h0, ((BQ.out.trans (hW.mono BQ.out.size)).cell (p := ⟨w11.heap.size, 1, none⟩) (by simp; omega)).trans h1, ((BQ.out.trans (hW.mono BQ.out.size)).cell (p := ⟨w11.heap.size, 2, none⟩) (by simp; omega)).trans h2, ((BQ.out.trans (hW.mono BQ.out.size)).cell (p := ⟨w11.heap.size, 3, none⟩) (by simp; omega)).trans h3, ((BQ.out.trans (hW.mono BQ.out.size)).cell (p := ⟨w11.heap.size, 4, none⟩) (by simp; omega)).trans h4, ((BQ.out.trans (hW.mono BQ.out.size)).cell (p := ⟨w11.heap.size, 5, none⟩) (by simp; omega)).trans h5⟩), ((R12.out (i + 1) z P2.out).later (BQ.out.trans (hW.mono BQ.out.size)) (by omega)).cellsAt, (Z2.out.later hW hb3).cellsAt⟩)
            refine wp_region_held_drew (S := fun W => Below wq.heap.size wq W ∧ (W.cell? ⟨w11.heap.size, 0, none⟩ = some (.slice (some ⟨gq, 0, none⟩) (j + 1) capq) ∧ W.cell? ⟨w11.heap.size, 1, none⟩ = some (.int .u64 0) ∧ W.cell? ⟨w11.heap.size, 2, none⟩ = some (.int .u64 0) ∧ W.cell? ⟨w11.heap.size, 3, none⟩ = some (.int .u64 0) ∧ W.cell? ⟨w11.heap.size, 4, none⟩ = some (.int .u64 0) ∧ W.cell? ⟨w11.heap.size, 5, none⟩ = some (.int .i64 0)) ∧ (W.cell? ⟨gq, (i + 1) * 4, none⟩ = some (.int .u64 z.a) ∧ W.cell? ⟨gq, (i + 1) * 4 + 1, none⟩ = some (.int .u64 z.b) ∧ W.cell? ⟨gq, (i + 1) * 4 + 2, none⟩ = some (.int .u64 z.c) ∧ W.cell? ⟨gq, (i + 1) * 4 + 3, none⟩ = some (.int .u64 z.d)) ∧ (W.cell? ⟨ba, off + i * 4, none⟩ = some (.int .u64 z.a) ∧ W.cell? ⟨ba, off + i * 4 + 1, none⟩ = some (.int .u64 z.b) ∧ W.cell? ⟨ba, off + i * 4 + 2, none⟩ = some (.int .u64 z.c) ∧ W.cell? ⟨ba, off + i * 4 + 3, none⟩ = some (.int .u64 z.d))) (by kernel_rfl) ?_ (fun hHeld => ?_)
            · exact MK.out _ (below_drew _)
            refine wpAnyH_take (i := 0) (v := (.pointer (some ⟨w11.heap.size, 0, none⟩))) rfl (by kernel_rfl) (by kernel_rfl) (by kernel_rfl) (fun _ _ _ h => h) (Or.inl ⟨by rfl, ?_⟩) hHeld ?_
            · intro w hSw; try dsimp only at hSw
              go_simp
            try simp only [Act.put, List.getElem_toArray, List.getElem_cons_zero, List.getElem_cons_succ, List.setIfInBounds_toArray, List.set_cons_zero, List.set_cons_succ]
            refine wpAnyH_take (i := 1) (v := (.slice (some ⟨gq, 0, none⟩) (j + 1) capq)) rfl (by kernel_rfl) (by kernel_rfl) (by kernel_rfl) (fun _ _ _ h => h) (Or.inl ⟨by rfl, ?_⟩) hHeld ?_
            · intro w hSw; try dsimp only at hSw
              go_simp
            try simp only [Act.put, List.getElem_toArray, List.getElem_cons_zero, List.getElem_cons_succ, List.setIfInBounds_toArray, List.set_cons_zero, List.set_cons_succ]
            refine wpAnyH_take (i := 2) (v := (.int .i64 (i : Int))) rfl (by kernel_rfl) (by kernel_rfl) (by kernel_rfl) (fun _ _ _ h => h) (Or.inl ⟨by rfl, ?_⟩) hHeld ?_
            · intro w hSw; try dsimp only at hSw
              go_simp
            try simp only [Act.put, List.getElem_toArray, List.getElem_cons_zero, List.getElem_cons_succ, List.setIfInBounds_toArray, List.set_cons_zero, List.set_cons_succ]
            refine wpAnyH_take (i := 3) (v := (.int .i64 ((i : Int) + 1))) rfl (by kernel_rfl) (by kernel_rfl) (by kernel_rfl) (fun _ _ _ h => h) (Or.inl ⟨by rfl, ?_⟩) hHeld ?_
            · intro w hSw; try dsimp only at hSw
              go_simp
            try simp only [Act.put, List.getElem_toArray, List.getElem_cons_zero, List.getElem_cons_succ, List.setIfInBounds_toArray, List.set_cons_zero, List.set_cons_succ]
            refine wpAnyH_take (i := 4) (v := (.pointer (some ⟨gq, (i + 1) * 4, none⟩))) rfl (by kernel_rfl) (by kernel_rfl) (by kernel_rfl) (fun _ _ _ h => h) (Or.inl ⟨by rfl, ?_⟩) hHeld ?_
            · intro w hSw; try dsimp only at hSw
              go_simp
              try (intro hbad; exfalso; omega)
            try simp only [Act.put, List.getElem_toArray, List.getElem_cons_zero, List.getElem_cons_succ, List.setIfInBounds_toArray, List.set_cons_zero, List.set_cons_succ]
            refine wpAnyH_take (i := 5) (v := (idV z)) rfl (by kernel_rfl) (by kernel_rfl) (by kernel_rfl) (fun _ _ _ h => h) (Or.inl ⟨by rfl, ?_⟩) hHeld ?_
            · intro w hSw; try dsimp only at hSw
              go_simp
            try simp only [Act.put, List.getElem_toArray, List.getElem_cons_zero, List.getElem_cons_succ, List.setIfInBounds_toArray, List.set_cons_zero, List.set_cons_succ]
            refine wpAnyH_take (i := 7) (v := (.slice (some ⟨ba, off, none⟩) hops.length c)) rfl (by kernel_rfl) (by kernel_rfl) (by kernel_rfl) (fun _ _ _ h => h) (Or.inl ⟨by rfl, ?_⟩) hHeld ?_
            · intro w hSw; try dsimp only at hSw
              go_simp
            try simp only [Act.put, List.getElem_toArray, List.getElem_cons_zero, List.getElem_cons_succ, List.setIfInBounds_toArray, List.set_cons_zero, List.set_cons_succ]
            refine wpAnyH_take (i := 8) (v := (.int .i64 (i : Int))) rfl (by kernel_rfl) (by kernel_rfl) (by kernel_rfl) (fun _ _ _ h => h) (Or.inl ⟨by rfl, ?_⟩) hHeld ?_
            · intro w hSw; try dsimp only at hSw
              go_simp
            try simp only [Act.put, List.getElem_toArray, List.getElem_cons_zero, List.getElem_cons_succ, List.setIfInBounds_toArray, List.set_cons_zero, List.set_cons_succ]
            refine wpAnyH_take (i := 9) (v := (.pointer (some ⟨ba, off + i * 4, none⟩))) rfl (by kernel_rfl) (by kernel_rfl) (by kernel_rfl) (fun _ _ _ h => h) (Or.inl ⟨by rfl, ?_⟩) hHeld ?_
            · intro w hSw; try dsimp only at hSw
              go_simp
              try (intro hbad; exfalso; omega)
            try simp only [Act.put, List.getElem_toArray, List.getElem_cons_zero, List.getElem_cons_succ, List.setIfInBounds_toArray, List.set_cons_zero, List.set_cons_succ]
            refine wpAnyH_take (i := 10) (v := (idV z)) rfl (by kernel_rfl) (by kernel_rfl) (by kernel_rfl) (fun _ _ _ h => h) (Or.inl ⟨by rfl, ?_⟩) hHeld ?_
            · intro w hSw; try dsimp only at hSw
              go_simp
            try simp only [Act.put, List.getElem_toArray, List.getElem_cons_zero, List.getElem_cons_succ, List.setIfInBounds_toArray, List.set_cons_zero, List.set_cons_succ]
            refine wpAnyH_ready (rs := [6]) (by kernel_rfl) (by simp) ?_
            refine AllReadyH.cons rfl (fun K hK => ?_) AllReadyH.nil
            go_simp
            refine (words_any z _).mono ?_
            rintro e w14 ⟨rfl, hb14⟩
            refine hK.out _ _ ?_ (fun hHeld => ?_)
            · exact MK.out _ ((below_drew wq).trans hb14)
            clear hK K
            try simp only [Act.put, List.getElem_toArray, List.getElem_cons_zero, List.getElem_cons_succ, List.setIfInBounds_toArray, List.set_cons_zero, List.set_cons_succ]
            refine wpAnyH_take (i := 11) (v := (.bool false)) rfl (by kernel_rfl) (by kernel_rfl) (by kernel_rfl) (fun _ _ _ h => h) (Or.inl ⟨by rfl, ?_⟩) hHeld ?_
            · intro w hSw; try dsimp only at hSw
              go_simp
            try simp only [Act.put, List.getElem_toArray, List.getElem_cons_zero, List.getElem_cons_succ, List.setIfInBounds_toArray, List.set_cons_zero, List.set_cons_succ]
            refine wpAnyH_done (by kernel_rfl) ?_ _
            have BQ2 := hide (BQ.out.trans (((below_drew wq).trans hb14).mono BQ.out.size))
            clear hHeld MK hb14
            go_wp2
            go_roundw
            case rel => exact ⟨i + 1, by omega, by go_num, BQ2⟩
            case measure => simp [intOf]; omega
          · have t : same4 0 0 0 0 0 0 0 0 = true := by rfl
            have t2 : same4 x.a x.b x.c x.d x.a x.b x.c x.d = true := by rw [same4_ids]; simp
            go_upto_region 37 with fail
            have MK := hide (show ∀ W, Below wq.heap.size wq W → (Below wq.heap.size wq W ∧ (W.cell? ⟨w11.heap.size, 0, none⟩ = some (.slice (some ⟨gq, 0, none⟩) (j + 1) capq) ∧ W.cell? ⟨w11.heap.size, 1, none⟩ = some (.int .u64 0) ∧ W.cell? ⟨w11.heap.size, 2, none⟩ = some (.int .u64 0) ∧ W.cell? ⟨w11.heap.size, 3, none⟩ = some (.int .u64 0) ∧ W.cell? ⟨w11.heap.size, 4, none⟩ = some (.int .u64 0) ∧ W.cell? ⟨w11.heap.size, 5, none⟩ = some (.int .i64 0)) ∧ (W.cell? ⟨w25.heap.size, 0, none⟩ = some (.int .u64 0) ∧ W.cell? ⟨w25.heap.size, 1, none⟩ = some (.int .u64 0) ∧ W.cell? ⟨w25.heap.size, 2, none⟩ = some (.int .u64 0) ∧ W.cell? ⟨w25.heap.size, 3, none⟩ = some (.int .u64 0)) ∧ (W.cell? ⟨w9.heap.size, 0, none⟩ = some (.int .u64 x.a) ∧ W.cell? ⟨w9.heap.size, 1, none⟩ = some (.int .u64 x.b) ∧ W.cell? ⟨w9.heap.size, 2, none⟩ = some (.int .u64 x.c) ∧ W.cell? ⟨w9.heap.size, 3, none⟩ = some (.int .u64 x.d)) ∧ (W.cell? ⟨w4.heap.size, 0, none⟩ = some (.int .u64 x.a) ∧ W.cell? ⟨w4.heap.size, 1, none⟩ = some (.int .u64 x.b) ∧ W.cell? ⟨w4.heap.size, 2, none⟩ = some (.int .u64 x.c) ∧ W.cell? ⟨w4.heap.size, 3, none⟩ = some (.int .u64 x.d))) from fun W hW => ⟨hW, (by obtain ⟨h0, h1, h2, h3, h4, h5⟩ := RB.out; exact ⟨((BQ.out.trans (hW.mono BQ.out.size)).cell (p := ⟨w11.heap.size, 0, none⟩) (by simp; omega)).trans h0, ((BQ.out.trans (hW.mono BQ.out.size)).cell (p := ⟨w11.heap.size, 1, none⟩) (by simp; omega)).trans h1, ((BQ.out.trans (hW.mono BQ.out.size)).cell (p := ⟨w11.heap.size, 2, none⟩) (by simp; omega)).trans h2, ((BQ.out.trans (hW.mono BQ.out.size)).cell (p := ⟨w11.heap.size, 3, none⟩) (by simp; omega)).trans h3, ((BQ.out.trans (hW.mono BQ.out.size)).cell (p := ⟨w11.heap.size, 4, none⟩) (by simp; omega)).trans h4, ((BQ.out.trans (hW.mono BQ.out.size)).cell (p := ⟨w11.heap.size, 5, none⟩) (by simp; omega)).trans h5⟩), (Z12.out.later (BQ.out.trans (hW.mono BQ.out.size)) (by omega)).cells0, (N12.out.later (BQ.out.trans (hW.mono BQ.out.size)) (by omega)).cells0, (CU12.out.later (BQ.out.trans (hW.mono BQ.out.size)) (by omega)).cells0⟩)
            refine wp_region_held_drew (S := fun W => Below wq.heap.size wq W ∧ (W.cell? ⟨w11.heap.size, 0, none⟩ = some (.slice (some ⟨gq, 0, none⟩) (j + 1) capq) ∧ W.cell? ⟨w11.heap.size, 1, none⟩ = some (.int .u64 0) ∧ W.cell? ⟨w11.heap.size, 2, none⟩ = some (.int .u64 0) ∧ W.cell? ⟨w11.heap.size, 3, none⟩ = some (.int .u64 0) ∧ W.cell? ⟨w11.heap.size, 4, none⟩ = some (.int .u64 0) ∧ W.cell? ⟨w11.heap.size, 5, none⟩ = some (.int .i64 0)) ∧ (W.cell? ⟨w25.heap.size, 0, none⟩ = some (.int .u64 0) ∧ W.cell? ⟨w25.heap.size, 1, none⟩ = some (.int .u64 0) ∧ W.cell? ⟨w25.heap.size, 2, none⟩ = some (.int .u64 0) ∧ W.cell? ⟨w25.heap.size, 3, none⟩ = some (.int .u64 0)) ∧ (W.cell? ⟨w9.heap.size, 0, none⟩ = some (.int .u64 x.a) ∧ W.cell? ⟨w9.heap.size, 1, none⟩ = some (.int .u64 x.b) ∧ W.cell? ⟨w9.heap.size, 2, none⟩ = some (.int .u64 x.c) ∧ W.cell? ⟨w9.heap.size, 3, none⟩ = some (.int .u64 x.d)) ∧ (W.cell? ⟨w4.heap.size, 0, none⟩ = some (.int .u64 x.a) ∧ W.cell? ⟨w4.heap.size, 1, none⟩ = some (.int .u64 x.b) ∧ W.cell? ⟨w4.heap.size, 2, none⟩ = some (.int .u64 x.c) ∧ W.cell? ⟨w4.heap.size, 3, none⟩ = some (.int .u64 x.d))) (by kernel_rfl) ?_ (fun hHeld => ?_)
            · exact MK.out _ (below_drew _)
            refine wpAnyH_take (i := 0) (v := (.pointer (some ⟨w11.heap.size, 1, none⟩))) rfl (by kernel_rfl) (by kernel_rfl) (by kernel_rfl) (fun _ _ _ h => h) (Or.inl ⟨by rfl, ?_⟩) hHeld ?_
            · intro w hSw; try dsimp only at hSw
              go_simp
            try simp only [Act.put, List.getElem_toArray, List.getElem_cons_zero, List.getElem_cons_succ, List.setIfInBounds_toArray, List.set_cons_zero, List.set_cons_succ]
            refine wpAnyH_take (i := 1) (v := (.agg #[.int .u64 0, .int .u64 0, .int .u64 0, .int .u64 0])) rfl (by kernel_rfl) (by kernel_rfl) (by kernel_rfl) (fun _ _ _ h => h) (Or.inl ⟨by rfl, ?_⟩) hHeld ?_
            · intro w hSw; try dsimp only at hSw
              go_simp
            try simp only [Act.put, List.getElem_toArray, List.getElem_cons_zero, List.getElem_cons_succ, List.setIfInBounds_toArray, List.set_cons_zero, List.set_cons_succ]
            refine wpAnyH_take (i := 3) (v := (.agg #[.int .u64 0, .int .u64 0, .int .u64 0, .int .u64 0])) rfl (by kernel_rfl) (by kernel_rfl) (by kernel_rfl) (fun _ _ _ h => h) (Or.inl ⟨by rfl, ?_⟩) hHeld ?_
            · intro w hSw; try dsimp only at hSw
              go_simp
            try simp only [Act.put, List.getElem_toArray, List.getElem_cons_zero, List.getElem_cons_succ, List.setIfInBounds_toArray, List.set_cons_zero, List.set_cons_succ]
            refine wpAnyH_ready (rs := [2]) (by kernel_rfl) (by simp) ?_
            refine AllReadyH.cons rfl (fun K hK => ?_) AllReadyH.nil
            go_simp
            refine (words_zero _).mono ?_
            rintro e w14 ⟨rfl, hb14⟩
            refine hK.out _ _ ?_ (fun hHeld => ?_)
            · exact MK.out _ ((below_drew wq).trans hb14)
            clear hK K
            try simp only [Act.put, List.getElem_toArray, List.getElem_cons_zero, List.getElem_cons_succ, List.setIfInBounds_toArray, List.set_cons_zero, List.set_cons_succ]
            have b14 := (below_drew wq).trans hb14
            refine wpAnyH_take (i := 4) (v := (.bool true)) rfl (by kernel_rfl) (by kernel_rfl) (by kernel_rfl) (fun _ _ _ h => h) (Or.inl ⟨by rfl, ?_⟩) hHeld ?_
            · intro w hSw; try dsimp only at hSw
              go_simp
            try simp only [Act.put, List.getElem_toArray, List.getElem_cons_zero, List.getElem_cons_succ, List.setIfInBounds_toArray, List.set_cons_zero, List.set_cons_succ]
            refine wpAnyH_take (i := 5) (v := (.bool true)) rfl (by kernel_rfl) (by kernel_rfl) (by kernel_rfl) (fun _ _ _ h => h) (Or.inl ⟨by rfl, ?_⟩) hHeld ?_
            · intro w hSw; try dsimp only at hSw
              go_simp
            try simp only [Act.put, List.getElem_toArray, List.getElem_cons_zero, List.getElem_cons_succ, List.setIfInBounds_toArray, List.set_cons_zero, List.set_cons_succ]
            refine wpAnyH_take (i := 6) (v := (.pointer (some ⟨w11.heap.size, 5, none⟩))) rfl (by kernel_rfl) (by kernel_rfl) (by kernel_rfl) (fun _ _ _ h => h) (Or.inl ⟨by rfl, ?_⟩) hHeld ?_
            · intro w hSw; try dsimp only at hSw
              go_simp
            try simp only [Act.put, List.getElem_toArray, List.getElem_cons_zero, List.getElem_cons_succ, List.setIfInBounds_toArray, List.set_cons_zero, List.set_cons_succ]
            refine wpAnyH_take (i := 7) (v := (.int .i64 0)) rfl (by kernel_rfl) (by kernel_rfl) (by kernel_rfl) (fun _ _ _ h => h) (Or.inl ⟨by rfl, ?_⟩) hHeld ?_
            · intro w hSw; try dsimp only at hSw
              go_simp
            try simp only [Act.put, List.getElem_toArray, List.getElem_cons_zero, List.getElem_cons_succ, List.setIfInBounds_toArray, List.set_cons_zero, List.set_cons_succ]
            refine wpAnyH_take (i := 8) (v := (.bool true)) rfl (by kernel_rfl) (by kernel_rfl) (by kernel_rfl) (fun _ _ _ h => h) (Or.inl ⟨by rfl, ?_⟩) hHeld ?_
            · intro w hSw; try dsimp only at hSw
              go_simp
            try simp only [Act.put, List.getElem_toArray, List.getElem_cons_zero, List.getElem_cons_succ, List.setIfInBounds_toArray, List.set_cons_zero, List.set_cons_succ]
            refine wpAnyH_take (i := 9) (v := (.bool true)) rfl (by kernel_rfl) (by kernel_rfl) (by kernel_rfl) (fun _ _ _ h => h) (Or.inl ⟨by rfl, ?_⟩) hHeld ?_
            · intro w hSw; try dsimp only at hSw
              go_simp
            try simp only [Act.put, List.getElem_toArray, List.getElem_cons_zero, List.getElem_cons_succ, List.setIfInBounds_toArray, List.set_cons_zero, List.set_cons_succ]
            refine wpAnyH_take (i := 10) (v := (.bool true)) rfl (by kernel_rfl) (by kernel_rfl) (by kernel_rfl) (fun _ _ _ h => h) (Or.inl ⟨by rfl, ?_⟩) hHeld ?_
            · intro w hSw; try dsimp only at hSw
              go_simp
            try simp only [Act.put, List.getElem_toArray, List.getElem_cons_zero, List.getElem_cons_succ, List.setIfInBounds_toArray, List.set_cons_zero, List.set_cons_succ]
            refine wpAnyH_take (i := 11) (v := (.bool true)) rfl (by kernel_rfl) (by kernel_rfl) (by kernel_rfl) (fun _ _ _ h => h) (Or.inl ⟨by rfl, ?_⟩) hHeld ?_
            · intro w hSw; try dsimp only at hSw
              go_simp
            try simp only [Act.put, List.getElem_toArray, List.getElem_cons_zero, List.getElem_cons_succ, List.setIfInBounds_toArray, List.set_cons_zero, List.set_cons_succ]
            refine wpAnyH_take (i := 12) (v := (.bool true)) rfl (by kernel_rfl) (by kernel_rfl) (by kernel_rfl) (fun _ _ _ h => h) (Or.inl ⟨by rfl, ?_⟩) hHeld ?_
            · intro w hSw; try dsimp only at hSw
              go_simp
            try simp only [Act.put, List.getElem_toArray, List.getElem_cons_zero, List.getElem_cons_succ, List.setIfInBounds_toArray, List.set_cons_zero, List.set_cons_succ]
            refine wpAnyH_take (i := 13) (v := (.bool true)) rfl (by kernel_rfl) (by kernel_rfl) (by kernel_rfl) (fun _ _ _ h => h) (Or.inl ⟨by rfl, ?_⟩) hHeld ?_
            · intro w hSw; try dsimp only at hSw
              go_simp
            try simp only [Act.put, List.getElem_toArray, List.getElem_cons_zero, List.getElem_cons_succ, List.setIfInBounds_toArray, List.set_cons_zero, List.set_cons_succ]
            refine wpAnyH_take (i := 14) (v := (idV x)) rfl (by kernel_rfl) (by kernel_rfl) (by kernel_rfl) (fun _ _ _ h => h) (Or.inl ⟨by rfl, ?_⟩) hHeld ?_
            · intro w hSw; try dsimp only at hSw
              go_simp
            try simp only [Act.put, List.getElem_toArray, List.getElem_cons_zero, List.getElem_cons_succ, List.setIfInBounds_toArray, List.set_cons_zero, List.set_cons_succ]
            refine wpAnyH_take (i := 16) (v := (idV x)) rfl (by kernel_rfl) (by kernel_rfl) (by kernel_rfl) (fun _ _ _ h => h) (Or.inl ⟨by rfl, ?_⟩) hHeld ?_
            · intro w hSw; try dsimp only at hSw
              go_simp
            try simp only [Act.put, List.getElem_toArray, List.getElem_cons_zero, List.getElem_cons_succ, List.setIfInBounds_toArray, List.set_cons_zero, List.set_cons_succ]
            refine wpAnyH_ready (rs := [15]) (by kernel_rfl) (by simp) ?_
            refine AllReadyH.cons rfl (fun K hK => ?_) AllReadyH.nil
            go_simp
            refine (words_any x _).mono ?_
            rintro e w15 ⟨rfl, hb15⟩
            refine hK.out _ _ ?_ (fun hHeld => ?_)
            · exact MK.out _ (b14.trans (hb15.mono b14.size))
            clear hK K
            try simp only [Act.put, List.getElem_toArray, List.getElem_cons_zero, List.getElem_cons_succ, List.setIfInBounds_toArray, List.set_cons_zero, List.set_cons_succ]
            refine wpAnyH_take (i := 17) (v := (.bool true)) rfl (by kernel_rfl) (by kernel_rfl) (by kernel_rfl) (fun _ _ _ h => h) (Or.inl ⟨by rfl, ?_⟩) hHeld ?_
            · intro w hSw; try dsimp only at hSw
              go_simp
            try simp only [Act.put, List.getElem_toArray, List.getElem_cons_zero, List.getElem_cons_succ, List.setIfInBounds_toArray, List.set_cons_zero, List.set_cons_succ]
            refine wpAnyH_take (i := 18) (v := (.bool true)) rfl (by kernel_rfl) (by kernel_rfl) (by kernel_rfl) (fun _ _ _ h => h) (Or.inl ⟨by rfl, ?_⟩) hHeld ?_
            · intro w hSw; try dsimp only at hSw
              go_simp
            try simp only [Act.put, List.getElem_toArray, List.getElem_cons_zero, List.getElem_cons_succ, List.setIfInBounds_toArray, List.set_cons_zero, List.set_cons_succ]
            refine wpAnyH_take (i := 19) (v := (.bool true)) rfl (by kernel_rfl) (by kernel_rfl) (by kernel_rfl) (fun _ _ _ h => h) (Or.inl ⟨by rfl, ?_⟩) hHeld ?_
            · intro w hSw; try dsimp only at hSw
              go_simp
            try simp only [Act.put, List.getElem_toArray, List.getElem_cons_zero, List.getElem_cons_succ, List.setIfInBounds_toArray, List.set_cons_zero, List.set_cons_succ]
            refine wpAnyH_done (by kernel_rfl) ?_ _
            go_wp2
            go_ret
            exact ⟨rfl, HW12.out.trans ((BQ.out.trans ((b14.trans (hb15.mono b14.size)).mono BQ.out.size)).mono HW12.out.size)⟩
    · have hjn : j = hops.length := by omega
      subst hjn
      obtain ⟨F1, S1, G1, L1, W1, H5, H6, H7, H8⟩ := HL.out
      obtain ⟨o0, o1, o2, o3⟩ := (C3.out.later HU.out (by omega)).cells0
      have HS := hide (And.intro S1 (And.intro G1 W1))
      have hF1 := hide (show ∀ k, k < w3.heap.size → ¬ F1 k from fun k hk h => hF5.out k hk (S1.foot k (by omega) h))
      clear S1 G1 L1 W1 H5 H6 H7 H8 hlt
      go_wp2_with fail
      refine (newID_any owner wr).mono ?_
      rintro e w7 ⟨rfl, hb7⟩
      have hs7 := hb7.size
      have HU7 := hide (HU.out.trans (hb7.mono HU.out.size))
      have W7 := hide (HS.out.2.2.below hb7)
      have G7 := hide (HS.out.2.1.step (Step.of_below F1 hb7))
      clear hb7 HS o0 o1 o2 o3
      go_wp2_with fail
      refine (answer_any F1 bw key p [] x owner true w7 W7.out G7.out (by omega) (by simp) HX.out.2.1 HXX.out HX.out.2.2.1).mono ?_
      rintro e w8 ⟨v, F2, rfl, hev, hh, hst⟩
      have ea : answer key p [] x owner true = ⟨(p ++ [x]) ++ [owner], [], true, false⟩ := by simp [answer]
      rw [ea] at hev hh
      have HU8 := hide (HU7.out.trans (hst.below (by omega) hF1.out))
      have W8 := hide hh
      have hs8 := hst.size
      clear hst hh ea W7 G7 HU7
      obtain rfl : v = .nilIface := by
        rcases hev with ⟨_, h⟩ | ⟨h, _⟩
        · exact h
        · simp at h
      clear hev
      go_wp2_with fail
      refine (next_over F2 bw key _ _ _ _ w8 W8.out rfl).mono ?_
      rintro e w9 ⟨rfl, hb9⟩
      have hs9 := hb9.size
      have W9 := hide (Walk.below W8.out hb9)
      have HU9 := hide (HU8.out.trans (hb9.mono HU8.out.size))
      clear hb9 W8 HU8
      go_wp2_with fail
      obtain ⟨w10, hw10⟩ : ∃ z, z = w9.alloc (box zero 27) := ⟨_, rfl⟩
      rw [← hw10]
      have bbw10 : Below w9.heap.size w9 w10 := by rw [hw10]; exact (Below.refl _ _).alloc (Nat.le_refl _) _
      have hsw10 : w9.heap.size < w10.heap.size := by rw [hw10]; simp
      have N10 := hide (show IdAt w10 w9.heap.size 0 zero by rw [hw10]; exact idAt_new w9 zero 27)
      have HU10 := hide (HU9.out.trans (bbw10.mono HU9.out.size))
      have W10 := hide (Walk.below W9.out bbw10)
      clear hw10 bbw10 W9 HU9
      refine (result_done F2 bw key (p ++ [x]) [] owner false w10 W10.out (by simp; omega)).mono ?_
      rintro e w11 ⟨vp, rfl, hr11, hb11⟩
      have eh : hopsOf (p ++ [x]).length = (hops.length : Int) := by
        rw [List.length_append, List.length_singleton, hpl]
        exact hopsOf_succ _
      rw [eh]
      clear eh W10
      have hLL : ((p ++ [x]) ++ [owner]).length = hops.length + 1 + 1 := by simp [hpl]
      rcases hr11 with ⟨_, h⟩ | ⟨gq, capq, hv, hgq, r1, r2, r3, r4⟩
      · rw [h] at hLL
        simp at hLL
      rw [hLL] at hv
      subst hv
      have hcq : hops.length + 1 + 1 ≤ capq := by rw [← hLL]; exact r1
      have R11 := hide r4
      have hs11 := hb11.size
      clear r1 r2 r3 r4
      go_upto_region 28 with fail
      obtain ⟨w12, hw12⟩ : ∃ z, z = w11.alloc (.cells #[.slice (some ⟨gq, 0, none⟩) (hops.length + 1 + 1) capq, .int .u64 owner.a, .int .u64 owner.b, .int .u64 owner.c, .int .u64 owner.d, .int .i64 (hops.length : Int)] 43) := ⟨_, rfl⟩
      rw [← hw12]
      have bbw12 : Below w11.heap.size w11 w12 := by rw [hw12]; exact (Below.refl _ _).alloc (Nat.le_refl _) _
      have hsw12 : w11.heap.size < w12.heap.size := by rw [hw12]; simp
      have RB := hide (show (w12.cell? ⟨w11.heap.size, 0, none⟩ = some (.slice (some ⟨gq, 0, none⟩) (hops.length + 1 + 1) capq) ∧ w12.cell? ⟨w11.heap.size, 1, none⟩ = some (.int .u64 owner.a) ∧ w12.cell? ⟨w11.heap.size, 2, none⟩ = some (.int .u64 owner.b) ∧ w12.cell? ⟨w11.heap.size, 3, none⟩ = some (.int .u64 owner.c) ∧ w12.cell? ⟨w11.heap.size, 4, none⟩ = some (.int .u64 owner.d) ∧ w12.cell? ⟨w11.heap.size, 5, none⟩ = some (.int .i64 (hops.length : Int))) by rw [hw12]; exact ⟨by go_simp, by go_simp, by go_simp, by go_simp, by go_simp, by go_simp⟩)
      have R12 := hide (show ∀ i y, ((p ++ [x]) ++ [owner])[i]? = some y → IdAt w12 gq (i * 4) y from fun i y h => (R11.out i y h).later bbw12 hgq)
      have hgq2 : gq < w12.heap.size := by omega
      have b1012 := (hb11.trans (bbw12.mono hb11.size))
      have HU12 := hide (HU10.out.trans (b1012.mono HU10.out.size))
      have hU12 := HU12.out.size
      have N12 := hide (N10.out.later b1012 (by omega))
      have S12 := hide (C1.out.later HU12.out (by omega))
      have Z12 := hide (ZB.out.later HU12.out (by omega))
      have O12 := hide (C3.out.later HU12.out (by omega))
      have HW12 := hide (HB3.out.trans (HU12.out.mono HB3.out.size))
      clear hw12 bbw12 R11 hb11 b1012 HU10 N10
      have PF := hide (chain_get' HP.out owner)
      go_cut [106] from 22 (fun s wx => s = .bool false ∧ Hid (Below w12.heap.size w12 wx))
      case first =>
        have t : same4 start.a start.b start.c start.d start.a start.b start.c start.d = true := by rw [same4_ids]; simp
        have MK := hide (show ∀ W, Below w12.heap.size w12 W → (Below w12.heap.size w12 W ∧ (W.cell? ⟨w11.heap.size, 0, none⟩ = some (.slice (some ⟨gq, 0, none⟩) (hops.length + 1 + 1) capq) ∧ W.cell? ⟨w11.heap.size, 1, none⟩ = some (.int .u64 owner.a) ∧ W.cell? ⟨w11.heap.size, 2, none⟩ = some (.int .u64 owner.b) ∧ W.cell? ⟨w11.heap.size, 3, none⟩ = some (.int .u64 owner.c) ∧ W.cell? ⟨w11.heap.size, 4, none⟩ = some (.int .u64 owner.d) ∧ W.cell? ⟨w11.heap.size, 5, none⟩ = some (.int .i64 (hops.length : Int))) ∧ (W.cell? ⟨w.heap.size, 0, none⟩ = some (.int .u64 start.a) ∧ W.cell? ⟨w.heap.size, 1, none⟩ = some (.int .u64 start.b) ∧ W.cell? ⟨w.heap.size, 2, none⟩ = some (.int .u64 start.c) ∧ W.cell? ⟨w.heap.size, 3, none⟩ = some (.int .u64 start.d)) ∧ (W.cell? ⟨gq, 0, none⟩ = some (.int .u64 start.a) ∧ W.cell? ⟨gq, 1, none⟩ = some (.int .u64 start.b) ∧ W.cell? ⟨gq, 2, none⟩ = some (.int .u64 start.c) ∧ W.cell? ⟨gq, 3, none⟩ = some (.int .u64 start.d))) from fun W hW => ⟨hW, (by obtain ⟨h0, h1, h2, h3, h4, h5⟩ := RB.out; exact ⟨(hW.cell (p := ⟨w11.heap.size, 0, none⟩) (by simp; omega)).trans h0, (hW.cell (p := ⟨w11.heap.size, 1, none⟩) (by simp; omega)).trans h1, (hW.cell (p := ⟨w11.heap.size, 2, none⟩) (by simp; omega)).trans h2, (hW.cell (p := ⟨w11.heap.size, 3, none⟩) (by simp; omega)).trans h3, (hW.cell (p := ⟨w11.heap.size, 4, none⟩) (by simp; omega)).trans h4, (hW.cell (p := ⟨w11.heap.size, 5, none⟩) (by simp; omega)).trans h5⟩), (S12.out.later hW (by omega)).cells0, (by have h := (R12.out 0 start PF.out.1).later hW (by omega); rw [Nat.zero_mul] at h; exact h.cells0)⟩)
        refine wp_region_held_drew (S := fun W => Below w12.heap.size w12 W ∧ (W.cell? ⟨w11.heap.size, 0, none⟩ = some (.slice (some ⟨gq, 0, none⟩) (hops.length + 1 + 1) capq) ∧ W.cell? ⟨w11.heap.size, 1, none⟩ = some (.int .u64 owner.a) ∧ W.cell? ⟨w11.heap.size, 2, none⟩ = some (.int .u64 owner.b) ∧ W.cell? ⟨w11.heap.size, 3, none⟩ = some (.int .u64 owner.c) ∧ W.cell? ⟨w11.heap.size, 4, none⟩ = some (.int .u64 owner.d) ∧ W.cell? ⟨w11.heap.size, 5, none⟩ = some (.int .i64 (hops.length : Int))) ∧ (W.cell? ⟨w.heap.size, 0, none⟩ = some (.int .u64 start.a) ∧ W.cell? ⟨w.heap.size, 1, none⟩ = some (.int .u64 start.b) ∧ W.cell? ⟨w.heap.size, 2, none⟩ = some (.int .u64 start.c) ∧ W.cell? ⟨w.heap.size, 3, none⟩ = some (.int .u64 start.d)) ∧ (W.cell? ⟨gq, 0, none⟩ = some (.int .u64 start.a) ∧ W.cell? ⟨gq, 1, none⟩ = some (.int .u64 start.b) ∧ W.cell? ⟨gq, 2, none⟩ = some (.int .u64 start.c) ∧ W.cell? ⟨gq, 3, none⟩ = some (.int .u64 start.d))) (by kernel_rfl) ?_ (fun hHeld => ?_)
        · exact MK.out _ (below_drew _)
        refine wpAnyH_take (i := 0) (v := (.pointer (some ⟨w11.heap.size, 0, none⟩))) rfl (by kernel_rfl) (by kernel_rfl) (by kernel_rfl) (fun _ _ _ h => h) (Or.inl ⟨by rfl, ?_⟩) hHeld ?_
        · intro w hSw; try dsimp only at hSw
          go_simp
        try simp only [Act.put, List.getElem_toArray, List.getElem_cons_zero, List.getElem_cons_succ, List.setIfInBounds_toArray, List.set_cons_zero, List.set_cons_succ]
        refine wpAnyH_take (i := 1) (v := (.slice (some ⟨gq, 0, none⟩) (hops.length + 1 + 1) capq)) rfl (by kernel_rfl) (by kernel_rfl) (by kernel_rfl) (fun _ _ _ h => h) (Or.inl ⟨by rfl, ?_⟩) hHeld ?_
        · intro w hSw; try dsimp only at hSw
          go_simp
        try simp only [Act.put, List.getElem_toArray, List.getElem_cons_zero, List.getElem_cons_succ, List.setIfInBounds_toArray, List.set_cons_zero, List.set_cons_succ]
        refine wpAnyH_take (i := 2) (v := (.int .i64 (((hops.length : Nat) : Int) + 1 + 1))) rfl (by kernel_rfl) (by kernel_rfl) (by kernel_rfl) (fun _ _ _ h => h) (Or.inl ⟨by rfl, ?_⟩) hHeld ?_
        · intro w hSw; try dsimp only at hSw
          go_simp
        try simp only [Act.put, List.getElem_toArray, List.getElem_cons_zero, List.getElem_cons_succ, List.setIfInBounds_toArray, List.set_cons_zero, List.set_cons_succ]
        refine wpAnyH_take (i := 3) (v := (.int .i64 (((hops.length : Nat) : Int) + 1 + 1))) rfl (by kernel_rfl) (by kernel_rfl) (by kernel_rfl) (fun _ _ _ h => h) (Or.inl ⟨by rfl, ?_⟩) hHeld ?_
        · intro w hSw; try dsimp only at hSw
          go_simp
        try simp only [Act.put, List.getElem_toArray, List.getElem_cons_zero, List.getElem_cons_succ, List.setIfInBounds_toArray, List.set_cons_zero, List.set_cons_succ]
        refine wpAnyH_take (i := 4) (v := (.bool false)) rfl (by kernel_rfl) (by kernel_rfl) (by kernel_rfl) (fun _ _ _ h => h) (Or.inl ⟨by rfl, ?_⟩) hHeld ?_
        · intro w hSw; try dsimp only at hSw
          go_simp
        try simp only [Act.put, List.getElem_toArray, List.getElem_cons_zero, List.getElem_cons_succ, List.setIfInBounds_toArray, List.set_cons_zero, List.set_cons_succ]
        refine wpAnyH_take (i := 5) (v := (.bool false)) rfl (by kernel_rfl) (by kernel_rfl) (by kernel_rfl) (fun _ _ _ h => h) (Or.inl ⟨by rfl, ?_⟩) hHeld ?_
        · intro w hSw; try dsimp only at hSw
          go_simp
        try simp only [Act.put, List.getElem_toArray, List.getElem_cons_zero, List.getElem_cons_succ, List.setIfInBounds_toArray, List.set_cons_zero, List.set_cons_succ]
        refine wpAnyH_take (i := 6) (v := (.pointer (some ⟨w11.heap.size, 0, none⟩))) rfl (by kernel_rfl) (by kernel_rfl) (by kernel_rfl) (fun _ _ _ h => h) (Or.inl ⟨by rfl, ?_⟩) hHeld ?_
        · intro w hSw; try dsimp only at hSw
          go_simp
        try simp only [Act.put, List.getElem_toArray, List.getElem_cons_zero, List.getElem_cons_succ, List.setIfInBounds_toArray, List.set_cons_zero, List.set_cons_succ]
        refine wpAnyH_take (i := 7) (v := (.slice (some ⟨gq, 0, none⟩) (hops.length + 1 + 1) capq)) rfl (by kernel_rfl) (by kernel_rfl) (by kernel_rfl) (fun _ _ _ h => h) (Or.inl ⟨by rfl, ?_⟩) hHeld ?_
        · intro w hSw; try dsimp only at hSw
          go_simp
        try simp only [Act.put, List.getElem_toArray, List.getElem_cons_zero, List.getElem_cons_succ, List.setIfInBounds_toArray, List.set_cons_zero, List.set_cons_succ]
        refine wpAnyH_take (i := 8) (v := (.pointer (some ⟨gq, 0, none⟩))) rfl (by kernel_rfl) (by kernel_rfl) (by kernel_rfl) (fun _ _ _ h => h) (Or.inl ⟨by rfl, ?_⟩) hHeld ?_
        · intro w hSw; try dsimp only at hSw
          go_simp
          try (intro hbad; exfalso; omega)
        try simp only [Act.put, List.getElem_toArray, List.getElem_cons_zero, List.getElem_cons_succ, List.setIfInBounds_toArray, List.set_cons_zero, List.set_cons_succ]
        refine wpAnyH_take (i := 9) (v := (idV start)) rfl (by kernel_rfl) (by kernel_rfl) (by kernel_rfl) (fun _ _ _ h => h) (Or.inl ⟨by rfl, ?_⟩) hHeld ?_
        · intro w hSw; try dsimp only at hSw
          go_simp
        try simp only [Act.put, List.getElem_toArray, List.getElem_cons_zero, List.getElem_cons_succ, List.setIfInBounds_toArray, List.set_cons_zero, List.set_cons_succ]
        refine wpAnyH_take (i := 11) (v := (idV start)) rfl (by kernel_rfl) (by kernel_rfl) (by kernel_rfl) (fun _ _ _ h => h) (Or.inl ⟨by rfl, ?_⟩) hHeld ?_
        · intro w hSw; try dsimp only at hSw
          go_simp
        try simp only [Act.put, List.getElem_toArray, List.getElem_cons_zero, List.getElem_cons_succ, List.setIfInBounds_toArray, List.set_cons_zero, List.set_cons_succ]
        refine wpAnyH_ready (rs := [10]) (by kernel_rfl) (by simp) ?_
        refine AllReadyH.cons rfl (fun K hK => ?_) AllReadyH.nil
        go_simp
        refine (words_any start _).mono ?_
        rintro e w13 ⟨rfl, hb13⟩
        refine hK.out _ _ ?_ (fun hHeld => ?_)
        · exact MK.out _ ((below_drew w12).trans hb13)
        clear hK K
        try simp only [Act.put, List.getElem_toArray, List.getElem_cons_zero, List.getElem_cons_succ, List.setIfInBounds_toArray, List.set_cons_zero, List.set_cons_succ]
        refine wpAnyH_take (i := 12) (v := (.bool false)) rfl (by kernel_rfl) (by kernel_rfl) (by kernel_rfl) (fun _ _ _ h => h) (Or.inl ⟨by rfl, ?_⟩) hHeld ?_
        · intro w hSw; try dsimp only at hSw
          go_simp
        try simp only [Act.put, List.getElem_toArray, List.getElem_cons_zero, List.getElem_cons_succ, List.setIfInBounds_toArray, List.set_cons_zero, List.set_cons_succ]
        refine wpAnyH_take (i := 13) (v := (.bool false)) rfl (by kernel_rfl) (by kernel_rfl) (by kernel_rfl) (fun _ _ _ h => h) (Or.inl ⟨by rfl, ?_⟩) hHeld ?_
        · intro w hSw; try dsimp only at hSw
          go_simp
        try simp only [Act.put, List.getElem_toArray, List.getElem_cons_zero, List.getElem_cons_succ, List.setIfInBounds_toArray, List.set_cons_zero, List.set_cons_succ]
        refine wpAnyH_done (by kernel_rfl) ?_ _
        go_wp2_with fail
        go_meet
        exact ⟨rfl, hide ((below_drew w12).trans hb13)⟩
      case rest =>
      obtain ⟨rfl, hb13⟩ := hcut
      rename World => w13
      go_wp2_with fail
      go_loopw [21] (fun iv wq => ∃ i : Nat, i ≤ hops.length ∧ iv = .int .i64 i ∧ Hid (Below w12.heap.size w12 wq)) (fun iv _ => hops.length - (intOf iv).toNat)
      case atStart => exact ⟨0, Nat.zero_le _, rfl, hb13⟩
      case round =>
        clear hb13
        rename World => wq
        obtain ⟨i, hi, rfl, BQ⟩ := hrel
        have hsq := BQ.out.size
        by_cases hil : i < hops.length
        · obtain ⟨z, hz⟩ : ∃ z, hops[i]? = some z := ⟨_, List.getElem?_eq_getElem (by omega)⟩
          have BWQ := HW12.out.trans (BQ.out.mono HW12.out.size)
          obtain ⟨a1, c1, he, hall⟩ := HI.out.later BWQ (Nat.le_refl _)
          simp at he
          obtain ⟨rfl, rfl⟩ := he
          obtain ⟨b2, off2, he2, hb2, hz2⟩ := hall i z hz
          subst he2
          have Z2 := hide hz2
          have hb3 : b2 < wq.heap.size := by have := BWQ.size; omega
          have P2 := hide (PF.out.2.1 i z hil hz)
          clear hall hz2 hz BWQ
          have t : same4 z.a z.b z.c z.d z.a z.b z.c z.d = true := by rw [same4_ids]; simp
          have g1 : ¬ (((hops.length : Nat) : Int) + 1 ≤ (i : Int) + 1) := by omega
          have g2 : ¬ (((hops.length : Nat) : Int) + 1 + 1 ≤ (i : Int) + 1) := by omega
          have g3 : IntKind.i64.wrap ((i : Int) + 1) = (i : Int) + 1 := IntWalk.i64_in _ (by omega)
          have g4 : ¬ ((i : Int) + 1 < 0) := by omega
          have g6 : ¬ ((hops.length : Int) ≤ (i : Int)) := by omega
          have g5 : ((i : Int) + 1).toNat = i + 1 := by omega
          go_upto_region 33 with fail
          have MK := hide (show ∀ W, Below wq.heap.size wq W → (Below wq.heap.size wq W ∧ (W.cell? ⟨w11.heap.size, 0, none⟩ = some (.slice (some ⟨gq, 0, none⟩) (hops.length + 1 + 1) capq) ∧ W.cell? ⟨w11.heap.size, 1, none⟩ = some (.int .u64 owner.a) ∧ W.cell? ⟨w11.heap.size, 2, none⟩ = some (.int .u64 owner.b) ∧ W.cell? ⟨w11.heap.size, 3, none⟩ = some (.int .u64 owner.c) ∧ W.cell? ⟨w11.heap.size, 4, none⟩ = some (.int .u64 owner.d) ∧ W.cell? ⟨w11.heap.size, 5, none⟩ = some (.int .i64 (hops.length : Int))) ∧ (W.cell? ⟨gq, (i + 1) * 4, none⟩ = some (.int .u64 z.a) ∧ W.cell? ⟨gq, (i + 1) * 4 + 1, none⟩ = some (.int .u64 z.b) ∧ W.cell? ⟨gq, (i + 1) * 4 + 2, none⟩ = some (.int .u64 z.c) ∧ W.cell? ⟨gq, (i + 1) * 4 + 3, none⟩ = some (.int .u64 z.d)) ∧ (W.cell? ⟨b2, off2 + i * 4, none⟩ = some (.int .u64 z.a) ∧ W.cell? ⟨b2, off2 + i * 4 + 1, none⟩ = some (.int .u64 z.b) ∧ W.cell? ⟨b2, off2 + i * 4 + 2, none⟩ = some (.int .u64 z.c) ∧ W.cell? ⟨b2, off2 + i * 4 + 3, none⟩ = some (.int .u64 z.d))) from fun W hW => ⟨hW, (by obtain ⟨h0, h1, h2, h3, h4, h5⟩ := RB.out; exact ⟨((BQ.out.trans (hW.mono BQ.out.size)).cell (p := ⟨w11.heap.size, 0, none⟩) (by simp; omega)).trans h0, ((BQ.out.trans (hW.mono BQ.out.size)).cell (p := ⟨w11.heap.size, 1, none⟩) (by simp; omega)).trans h1, ((BQ.out.trans (hW.mono BQ.out.size)).cell (p := ⟨w11.heap.size, 2, none⟩) (by simp; omega)).trans h2, ((BQ.out.trans (hW.mono BQ.out.size)).cell (p := ⟨w11.heap.size, 3, none⟩) (by simp; omega)).trans h3, ((BQ.out.trans (hW.mono BQ.out.size)).cell (p := ⟨w11.heap.size, 4, none⟩) (by simp; omega)).trans h4, ((BQ.out.trans (hW.mono BQ.out.size)).cell (p := ⟨w11.heap.size, 5, none⟩) (by simp; omega)).trans h5⟩), ((R12.out (i + 1) z P2.out).later (BQ.out.trans (hW.mono BQ.out.size)) (by omega)).cellsAt, (Z2.out.later hW hb3).cellsAt⟩)
          refine wp_region_held_drew (S := fun W => Below wq.heap.size wq W ∧ (W.cell? ⟨w11.heap.size, 0, none⟩ = some (.slice (some ⟨gq, 0, none⟩) (hops.length + 1 + 1) capq) ∧ W.cell? ⟨w11.heap.size, 1, none⟩ = some (.int .u64 owner.a) ∧ W.cell? ⟨w11.heap.size, 2, none⟩ = some (.int .u64 owner.b) ∧ W.cell? ⟨w11.heap.size, 3, none⟩ = some (.int .u64 owner.c) ∧ W.cell? ⟨w11.heap.size, 4, none⟩ = some (.int .u64 owner.d) ∧ W.cell? ⟨w11.heap.size, 5, none⟩ = some (.int .i64 (hops.length : Int))) ∧ (W.cell? ⟨gq, (i + 1) * 4, none⟩ = some (.int .u64 z.a) ∧ W.cell? ⟨gq, (i + 1) * 4 + 1, none⟩ = some (.int .u64 z.b) ∧ W.cell? ⟨gq, (i + 1) * 4 + 2, none⟩ = some (.int .u64 z.c) ∧ W.cell? ⟨gq, (i + 1) * 4 + 3, none⟩ = some (.int .u64 z.d)) ∧ (W.cell? ⟨b2, off2 + i * 4, none⟩ = some (.int .u64 z.a) ∧ W.cell? ⟨b2, off2 + i * 4 + 1, none⟩ = some (.int .u64 z.b) ∧ W.cell? ⟨b2, off2 + i * 4 + 2, none⟩ = some (.int .u64 z.c) ∧ W.cell? ⟨b2, off2 + i * 4 + 3, none⟩ = some (.int .u64 z.d))) (by kernel_rfl) ?_ (fun hHeld => ?_)
          · exact MK.out _ (below_drew _)
          refine wpAnyH_take (i := 0) (v := (.pointer (some ⟨w11.heap.size, 0, none⟩))) rfl (by kernel_rfl) (by kernel_rfl) (by kernel_rfl) (fun _ _ _ h => h) (Or.inl ⟨by rfl, ?_⟩) hHeld ?_
          · intro w hSw; try dsimp only at hSw
            go_simp
          try simp only [Act.put, List.getElem_toArray, List.getElem_cons_zero, List.getElem_cons_succ, List.setIfInBounds_toArray, List.set_cons_zero, List.set_cons_succ]
          refine wpAnyH_take (i := 1) (v := (.slice (some ⟨gq, 0, none⟩) (hops.length + 1 + 1) capq)) rfl (by kernel_rfl) (by kernel_rfl) (by kernel_rfl) (fun _ _ _ h => h) (Or.inl ⟨by rfl, ?_⟩) hHeld ?_
          · intro w hSw; try dsimp only at hSw
            go_simp
          try simp only [Act.put, List.getElem_toArray, List.getElem_cons_zero, List.getElem_cons_succ, List.setIfInBounds_toArray, List.set_cons_zero, List.set_cons_succ]
          refine wpAnyH_take (i := 2) (v := (.int .i64 (i : Int))) rfl (by kernel_rfl) (by kernel_rfl) (by kernel_rfl) (fun _ _ _ h => h) (Or.inl ⟨by rfl, ?_⟩) hHeld ?_
          · intro w hSw; try dsimp only at hSw
            go_simp
          try simp only [Act.put, List.getElem_toArray, List.getElem_cons_zero, List.getElem_cons_succ, List.setIfInBounds_toArray, List.set_cons_zero, List.set_cons_succ]
          refine wpAnyH_take (i := 3) (v := (.int .i64 ((i : Int) + 1))) rfl (by kernel_rfl) (by kernel_rfl) (by kernel_rfl) (fun _ _ _ h => h) (Or.inl ⟨by rfl, ?_⟩) hHeld ?_
          · intro w hSw; try dsimp only at hSw
            go_simp
          try simp only [Act.put, List.getElem_toArray, List.getElem_cons_zero, List.getElem_cons_succ, List.setIfInBounds_toArray, List.set_cons_zero, List.set_cons_succ]
          refine wpAnyH_take (i := 4) (v := (.pointer (some ⟨gq, (i + 1) * 4, none⟩))) rfl (by kernel_rfl) (by kernel_rfl) (by kernel_rfl) (fun _ _ _ h => h) (Or.inl ⟨by rfl, ?_⟩) hHeld ?_
          · intro w hSw; try dsimp only at hSw
            go_simp
            try (intro hbad; exfalso; omega)
          try simp only [Act.put, List.getElem_toArray, List.getElem_cons_zero, List.getElem_cons_succ, List.setIfInBounds_toArray, List.set_cons_zero, List.set_cons_succ]
          refine wpAnyH_take (i := 5) (v := (idV z)) rfl (by kernel_rfl) (by kernel_rfl) (by kernel_rfl) (fun _ _ _ h => h) (Or.inl ⟨by rfl, ?_⟩) hHeld ?_
          · intro w hSw; try dsimp only at hSw
            go_simp
          try simp only [Act.put, List.getElem_toArray, List.getElem_cons_zero, List.getElem_cons_succ, List.setIfInBounds_toArray, List.set_cons_zero, List.set_cons_succ]
          refine wpAnyH_take (i := 7) (v := (.slice (some ⟨b2, off2, none⟩) hops.length c)) rfl (by kernel_rfl) (by kernel_rfl) (by kernel_rfl) (fun _ _ _ h => h) (Or.inl ⟨by rfl, ?_⟩) hHeld ?_
          · intro w hSw; try dsimp only at hSw
            go_simp
          try simp only [Act.put, List.getElem_toArray, List.getElem_cons_zero, List.getElem_cons_succ, List.setIfInBounds_toArray, List.set_cons_zero, List.set_cons_succ]
          refine wpAnyH_take (i := 8) (v := (.int .i64 (i : Int))) rfl (by kernel_rfl) (by kernel_rfl) (by kernel_rfl) (fun _ _ _ h => h) (Or.inl ⟨by rfl, ?_⟩) hHeld ?_
          · intro w hSw; try dsimp only at hSw
            go_simp
          try simp only [Act.put, List.getElem_toArray, List.getElem_cons_zero, List.getElem_cons_succ, List.setIfInBounds_toArray, List.set_cons_zero, List.set_cons_succ]
          refine wpAnyH_take (i := 9) (v := (.pointer (some ⟨b2, off2 + i * 4, none⟩))) rfl (by kernel_rfl) (by kernel_rfl) (by kernel_rfl) (fun _ _ _ h => h) (Or.inl ⟨by rfl, ?_⟩) hHeld ?_
          · intro w hSw; try dsimp only at hSw
            go_simp
            try (intro hbad; exfalso; omega)
          try simp only [Act.put, List.getElem_toArray, List.getElem_cons_zero, List.getElem_cons_succ, List.setIfInBounds_toArray, List.set_cons_zero, List.set_cons_succ]
          refine wpAnyH_take (i := 10) (v := (idV z)) rfl (by kernel_rfl) (by kernel_rfl) (by kernel_rfl) (fun _ _ _ h => h) (Or.inl ⟨by rfl, ?_⟩) hHeld ?_
          · intro w hSw; try dsimp only at hSw
            go_simp
          try simp only [Act.put, List.getElem_toArray, List.getElem_cons_zero, List.getElem_cons_succ, List.setIfInBounds_toArray, List.set_cons_zero, List.set_cons_succ]
          refine wpAnyH_ready (rs := [6]) (by kernel_rfl) (by simp) ?_
          refine AllReadyH.cons rfl (fun K hK => ?_) AllReadyH.nil
          go_simp
          refine (words_any z _).mono ?_
          rintro e w14 ⟨rfl, hb14⟩
          refine hK.out _ _ ?_ (fun hHeld => ?_)
          · exact MK.out _ ((below_drew wq).trans hb14)
          clear hK K
          try simp only [Act.put, List.getElem_toArray, List.getElem_cons_zero, List.getElem_cons_succ, List.setIfInBounds_toArray, List.set_cons_zero, List.set_cons_succ]
          refine wpAnyH_take (i := 11) (v := (.bool false)) rfl (by kernel_rfl) (by kernel_rfl) (by kernel_rfl) (fun _ _ _ h => h) (Or.inl ⟨by rfl, ?_⟩) hHeld ?_
          · intro w hSw; try dsimp only at hSw
            go_simp
          try simp only [Act.put, List.getElem_toArray, List.getElem_cons_zero, List.getElem_cons_succ, List.setIfInBounds_toArray, List.set_cons_zero, List.set_cons_succ]
          refine wpAnyH_done (by kernel_rfl) ?_ _
          have BQ2 := hide (BQ.out.trans (((below_drew wq).trans hb14).mono BQ.out.size))
          clear hHeld MK hb14
          go_wp2
          go_roundw
          case rel => exact ⟨i + 1, by omega, by go_num, BQ2⟩
          case measure => simp [intOf]; omega
        · have t : same4 0 0 0 0 0 0 0 0 = true := by rfl
          have t2 : same4 owner.a owner.b owner.c owner.d owner.a owner.b owner.c owner.d = true := by rw [same4_ids]; simp
          have g1 : ¬ (((hops.length : Nat) : Int) + 1 + 1 ≤ ((hops.length : Nat) : Int) + 1) := by omega
          have g3 : IntKind.i64.wrap (((hops.length : Nat) : Int) + 1) = ((hops.length : Nat) : Int) + 1 := IntWalk.i64_in _ (by omega)
          have g4 : ¬ (((hops.length : Nat) : Int) + 1 < 0) := by omega
          have g5 : (((hops.length : Nat) : Int) + 1).toNat = hops.length + 1 := by omega
          go_upto_region 36 with fail
          have MK := hide (show ∀ W, Below wq.heap.size wq W → (Below wq.heap.size wq W ∧ (W.cell? ⟨w11.heap.size, 0, none⟩ = some (.slice (some ⟨gq, 0, none⟩) (hops.length + 1 + 1) capq) ∧ W.cell? ⟨w11.heap.size, 1, none⟩ = some (.int .u64 owner.a) ∧ W.cell? ⟨w11.heap.size, 2, none⟩ = some (.int .u64 owner.b) ∧ W.cell? ⟨w11.heap.size, 3, none⟩ = some (.int .u64 owner.c) ∧ W.cell? ⟨w11.heap.size, 4, none⟩ = some (.int .u64 owner.d) ∧ W.cell? ⟨w11.heap.size, 5, none⟩ = some (.int .i64 (hops.length : Int))) ∧ (W.cell? ⟨w25.heap.size, 0, none⟩ = some (.int .u64 0) ∧ W.cell? ⟨w25.heap.size, 1, none⟩ = some (.int .u64 0) ∧ W.cell? ⟨w25.heap.size, 2, none⟩ = some (.int .u64 0) ∧ W.cell? ⟨w25.heap.size, 3, none⟩ = some (.int .u64 0)) ∧ (W.cell? ⟨w9.heap.size, 0, none⟩ = some (.int .u64 0) ∧ W.cell? ⟨w9.heap.size, 1, none⟩ = some (.int .u64 0) ∧ W.cell? ⟨w9.heap.size, 2, none⟩ = some (.int .u64 0) ∧ W.cell? ⟨w9.heap.size, 3, none⟩ = some (.int .u64 0)) ∧ (W.cell? ⟨w.heap.size + 1 + 1, 0, none⟩ = some (.int .u64 owner.a) ∧ W.cell? ⟨w.heap.size + 1 + 1, 1, none⟩ = some (.int .u64 owner.b) ∧ W.cell? ⟨w.heap.size + 1 + 1, 2, none⟩ = some (.int .u64 owner.c) ∧ W.cell? ⟨w.heap.size + 1 + 1, 3, none⟩ = some (.int .u64 owner.d)) ∧ (W.cell? ⟨gq, (hops.length + 1) * 4, none⟩ = some (.int .u64 owner.a) ∧ W.cell? ⟨gq, (hops.length + 1) * 4 + 1, none⟩ = some (.int .u64 owner.b) ∧ W.cell? ⟨gq, (hops.length + 1) * 4 + 2, none⟩ = some (.int .u64 owner.c) ∧ W.cell? ⟨gq, (hops.length + 1) * 4 + 3, none⟩ = some (.int .u64 owner.d))) from fun W hW => ⟨hW, (by obtain ⟨h0, h1, h2, h3, h4, h5⟩ := RB.out; exact ⟨((BQ.out.trans (hW.mono BQ.out.size)).cell (p := ⟨w11.heap.size, 0, none⟩) (by simp; omega)).trans h0, ((BQ.out.trans (hW.mono BQ.out.size)).cell (p := ⟨w11.heap.size, 1, none⟩) (by simp; omega)).trans h1, ((BQ.out.trans (hW.mono BQ.out.size)).cell (p := ⟨w11.heap.size, 2, none⟩) (by simp; omega)).trans h2, ((BQ.out.trans (hW.mono BQ.out.size)).cell (p := ⟨w11.heap.size, 3, none⟩) (by simp; omega)).trans h3, ((BQ.out.trans (hW.mono BQ.out.size)).cell (p := ⟨w11.heap.size, 4, none⟩) (by simp; omega)).trans h4, ((BQ.out.trans (hW.mono BQ.out.size)).cell (p := ⟨w11.heap.size, 5, none⟩) (by simp; omega)).trans h5⟩), (Z12.out.later (BQ.out.trans (hW.mono BQ.out.size)) (by omega)).cells0, (N12.out.later (BQ.out.trans (hW.mono BQ.out.size)) (by omega)).cells0, (O12.out.later (BQ.out.trans (hW.mono BQ.out.size)) (by omega)).cells0, ((R12.out (hops.length + 1) owner PF.out.2.2).later (BQ.out.trans (hW.mono BQ.out.size)) (by omega)).cellsAt⟩)
          refine wp_region_held_drew (S := fun W => Below wq.heap.size wq W ∧ (W.cell? ⟨w11.heap.size, 0, none⟩ = some (.slice (some ⟨gq, 0, none⟩) (hops.length + 1 + 1) capq) ∧ W.cell? ⟨w11.heap.size, 1, none⟩ = some (.int .u64 owner.a) ∧ W.cell? ⟨w11.heap.size, 2, none⟩ = some (.int .u64 owner.b) ∧ W.cell? ⟨w11.heap.size, 3, none⟩ = some (.int .u64 owner.c) ∧ W.cell? ⟨w11.heap.size, 4, none⟩ = some (.int .u64 owner.d) ∧ W.cell? ⟨w11.heap.size, 5, none⟩ = some (.int .i64 (hops.length : Int))) ∧ (W.cell? ⟨w25.heap.size, 0, none⟩ = some (.int .u64 0) ∧ W.cell? ⟨w25.heap.size, 1, none⟩ = some (.int .u64 0) ∧ W.cell? ⟨w25.heap.size, 2, none⟩ = some (.int .u64 0) ∧ W.cell? ⟨w25.heap.size, 3, none⟩ = some (.int .u64 0)) ∧ (W.cell? ⟨w9.heap.size, 0, none⟩ = some (.int .u64 0) ∧ W.cell? ⟨w9.heap.size, 1, none⟩ = some (.int .u64 0) ∧ W.cell? ⟨w9.heap.size, 2, none⟩ = some (.int .u64 0) ∧ W.cell? ⟨w9.heap.size, 3, none⟩ = some (.int .u64 0)) ∧ (W.cell? ⟨w.heap.size + 1 + 1, 0, none⟩ = some (.int .u64 owner.a) ∧ W.cell? ⟨w.heap.size + 1 + 1, 1, none⟩ = some (.int .u64 owner.b) ∧ W.cell? ⟨w.heap.size + 1 + 1, 2, none⟩ = some (.int .u64 owner.c) ∧ W.cell? ⟨w.heap.size + 1 + 1, 3, none⟩ = some (.int .u64 owner.d)) ∧ (W.cell? ⟨gq, (hops.length + 1) * 4, none⟩ = some (.int .u64 owner.a) ∧ W.cell? ⟨gq, (hops.length + 1) * 4 + 1, none⟩ = some (.int .u64 owner.b) ∧ W.cell? ⟨gq, (hops.length + 1) * 4 + 2, none⟩ = some (.int .u64 owner.c) ∧ W.cell? ⟨gq, (hops.length + 1) * 4 + 3, none⟩ = some (.int .u64 owner.d))) (by kernel_rfl) ?_ (fun hHeld => ?_)
          · exact MK.out _ (below_drew _)
          refine wpAnyH_take (i := 0) (v := (.pointer (some ⟨w11.heap.size, 0, none⟩))) rfl (by kernel_rfl) (by kernel_rfl) (by kernel_rfl) (fun _ _ _ h => h) (Or.inl ⟨by rfl, ?_⟩) hHeld ?_
          · intro w hSw; try dsimp only at hSw
            go_simp
          try simp only [Act.put, List.getElem_toArray, List.getElem_cons_zero, List.getElem_cons_succ, List.setIfInBounds_toArray, List.set_cons_zero, List.set_cons_succ]
          refine wpAnyH_take (i := 1) (v := (.slice (some ⟨gq, 0, none⟩) (hops.length + 1 + 1) capq)) rfl (by kernel_rfl) (by kernel_rfl) (by kernel_rfl) (fun _ _ _ h => h) (Or.inl ⟨by rfl, ?_⟩) hHeld ?_
          · intro w hSw; try dsimp only at hSw
            go_simp
          try simp only [Act.put, List.getElem_toArray, List.getElem_cons_zero, List.getElem_cons_succ, List.setIfInBounds_toArray, List.set_cons_zero, List.set_cons_succ]
          refine wpAnyH_take (i := 2) (v := (.int .i64 ((hops.length : Nat) : Int))) rfl (by kernel_rfl) (by kernel_rfl) (by kernel_rfl) (fun _ _ _ h => h) (Or.inl ⟨by rfl, ?_⟩) hHeld ?_
          · intro w hSw; try dsimp only at hSw
            go_simp
          try simp only [Act.put, List.getElem_toArray, List.getElem_cons_zero, List.getElem_cons_succ, List.setIfInBounds_toArray, List.set_cons_zero, List.set_cons_succ]
          refine wpAnyH_take (i := 3) (v := (.int .i64 (((hops.length : Nat) : Int) + 1))) rfl (by kernel_rfl) (by kernel_rfl) (by kernel_rfl) (fun _ _ _ h => h) (Or.inl ⟨by rfl, ?_⟩) hHeld ?_
          · intro w hSw; try dsimp only at hSw
            go_simp
          try simp only [Act.put, List.getElem_toArray, List.getElem_cons_zero, List.getElem_cons_succ, List.setIfInBounds_toArray, List.set_cons_zero, List.set_cons_succ]
          refine wpAnyH_take (i := 4) (v := (.pointer (some ⟨gq, (hops.length + 1) * 4, none⟩))) rfl (by kernel_rfl) (by kernel_rfl) (by kernel_rfl) (fun _ _ _ h => h) (Or.inl ⟨by rfl, ?_⟩) hHeld ?_
          · intro w hSw; try dsimp only at hSw
            go_simp
            try (intro hbad; exfalso; omega)
          try simp only [Act.put, List.getElem_toArray, List.getElem_cons_zero, List.getElem_cons_succ, List.setIfInBounds_toArray, List.set_cons_zero, List.set_cons_succ]
          refine wpAnyH_take (i := 5) (v := (idV owner)) rfl (by kernel_rfl) (by kernel_rfl) (by kernel_rfl) (fun _ _ _ h => h) (Or.inl ⟨by rfl, ?_⟩) hHeld ?_
          · intro w hSw; try dsimp only at hSw
            go_simp
          try simp only [Act.put, List.getElem_toArray, List.getElem_cons_zero, List.getElem_cons_succ, List.setIfInBounds_toArray, List.set_cons_zero, List.set_cons_succ]
          refine wpAnyH_take (i := 7) (v := (idV owner)) rfl (by kernel_rfl) (by kernel_rfl) (by kernel_rfl) (fun _ _ _ h => h) (Or.inl ⟨by rfl, ?_⟩) hHeld ?_
          · intro w hSw; try dsimp only at hSw
            go_simp
          try simp only [Act.put, List.getElem_toArray, List.getElem_cons_zero, List.getElem_cons_succ, List.setIfInBounds_toArray, List.set_cons_zero, List.set_cons_succ]
          refine wpAnyH_ready (rs := [6]) (by kernel_rfl) (by simp) ?_
          refine AllReadyH.cons rfl (fun K hK => ?_) AllReadyH.nil
          go_simp
          refine (words_any owner _).mono ?_
          rintro e w14 ⟨rfl, hb14⟩
          refine hK.out _ _ ?_ (fun hHeld => ?_)
          · exact MK.out _ ((below_drew wq).trans hb14)
          clear hK K
          try simp only [Act.put, List.getElem_toArray, List.getElem_cons_zero, List.getElem_cons_succ, List.setIfInBounds_toArray, List.set_cons_zero, List.set_cons_succ]
          have b14 := (below_drew wq).trans hb14
          refine wpAnyH_take (i := 8) (v := (.bool true)) rfl (by kernel_rfl) (by kernel_rfl) (by kernel_rfl) (fun _ _ _ h => h) (Or.inl ⟨by rfl, ?_⟩) hHeld ?_
          · intro w hSw; try dsimp only at hSw
            go_simp
          try simp only [Act.put, List.getElem_toArray, List.getElem_cons_zero, List.getElem_cons_succ, List.setIfInBounds_toArray, List.set_cons_zero, List.set_cons_succ]
          refine wpAnyH_take (i := 9) (v := (.bool true)) rfl (by kernel_rfl) (by kernel_rfl) (by kernel_rfl) (fun _ _ _ h => h) (Or.inl ⟨by rfl, ?_⟩) hHeld ?_
          · intro w hSw; try dsimp only at hSw
            go_simp
          try simp only [Act.put, List.getElem_toArray, List.getElem_cons_zero, List.getElem_cons_succ, List.setIfInBounds_toArray, List.set_cons_zero, List.set_cons_succ]
          refine wpAnyH_take (i := 10) (v := (.pointer (some ⟨w11.heap.size, 1, none⟩))) rfl (by kernel_rfl) (by kernel_rfl) (by kernel_rfl) (fun _ _ _ h => h) (Or.inl ⟨by rfl, ?_⟩) hHeld ?_
          · intro w hSw; try dsimp only at hSw
            go_simp
          try simp only [Act.put, List.getElem_toArray, List.getElem_cons_zero, List.getElem_cons_succ, List.setIfInBounds_toArray, List.set_cons_zero, List.set_cons_succ]
          refine wpAnyH_take (i := 11) (v := (idV owner)) rfl (by kernel_rfl) (by kernel_rfl) (by kernel_rfl) (fun _ _ _ h => h) (Or.inl ⟨by rfl, ?_⟩) hHeld ?_
          · intro w hSw; try dsimp only at hSw
            go_simp
          try simp only [Act.put, List.getElem_toArray, List.getElem_cons_zero, List.getElem_cons_succ, List.setIfInBounds_toArray, List.set_cons_zero, List.set_cons_succ]
          refine wpAnyH_take (i := 13) (v := (idV owner)) rfl (by kernel_rfl) (by kernel_rfl) (by kernel_rfl) (fun _ _ _ h => h) (Or.inl ⟨by rfl, ?_⟩) hHeld ?_
          · intro w hSw; try dsimp only at hSw
            go_simp
          try simp only [Act.put, List.getElem_toArray, List.getElem_cons_zero, List.getElem_cons_succ, List.setIfInBounds_toArray, List.set_cons_zero, List.set_cons_succ]
          refine wpAnyH_ready (rs := [12]) (by kernel_rfl) (by simp) ?_
          refine AllReadyH.cons rfl (fun K hK => ?_) AllReadyH.nil
          go_simp
          refine (words_any owner _).mono ?_
          rintro e w15 ⟨rfl, hb15⟩
          refine hK.out _ _ ?_ (fun hHeld => ?_)
          · exact MK.out _ (b14.trans (hb15.mono b14.size))
          clear hK K
          try simp only [Act.put, List.getElem_toArray, List.getElem_cons_zero, List.getElem_cons_succ, List.setIfInBounds_toArray, List.set_cons_zero, List.set_cons_succ]
          have b15 := b14.trans (hb15.mono b14.size)
          refine wpAnyH_take (i := 14) (v := (.bool true)) rfl (by kernel_rfl) (by kernel_rfl) (by kernel_rfl) (fun _ _ _ h => h) (Or.inl ⟨by rfl, ?_⟩) hHeld ?_
          · intro w hSw; try dsimp only at hSw
            go_simp
          try simp only [Act.put, List.getElem_toArray, List.getElem_cons_zero, List.getElem_cons_succ, List.setIfInBounds_toArray, List.set_cons_zero, List.set_cons_succ]
          refine wpAnyH_take (i := 15) (v := (.bool true)) rfl (by kernel_rfl) (by kernel_rfl) (by kernel_rfl) (fun _ _ _ h => h) (Or.inl ⟨by rfl, ?_⟩) hHeld ?_
          · intro w hSw; try dsimp only at hSw
            go_simp
          try simp only [Act.put, List.getElem_toArray, List.getElem_cons_zero, List.getElem_cons_succ, List.setIfInBounds_toArray, List.set_cons_zero, List.set_cons_succ]
          refine wpAnyH_take (i := 16) (v := (.bool true)) rfl (by kernel_rfl) (by kernel_rfl) (by kernel_rfl) (fun _ _ _ h => h) (Or.inl ⟨by rfl, ?_⟩) hHeld ?_
          · intro w hSw; try dsimp only at hSw
            go_simp
          try simp only [Act.put, List.getElem_toArray, List.getElem_cons_zero, List.getElem_cons_succ, List.setIfInBounds_toArray, List.set_cons_zero, List.set_cons_succ]
          refine wpAnyH_take (i := 17) (v := (.pointer (some ⟨w11.heap.size, 5, none⟩))) rfl (by kernel_rfl) (by kernel_rfl) (by kernel_rfl) (fun _ _ _ h => h) (Or.inl ⟨by rfl, ?_⟩) hHeld ?_
          · intro w hSw; try dsimp only at hSw
            go_simp
          try simp only [Act.put, List.getElem_toArray, List.getElem_cons_zero, List.getElem_cons_succ, List.setIfInBounds_toArray, List.set_cons_zero, List.set_cons_succ]
          refine wpAnyH_take (i := 18) (v := (.int .i64 ((hops.length : Nat) : Int))) rfl (by kernel_rfl) (by kernel_rfl) (by kernel_rfl) (fun _ _ _ h => h) (Or.inl ⟨by rfl, ?_⟩) hHeld ?_
          · intro w hSw; try dsimp only at hSw
            go_simp
          try simp only [Act.put, List.getElem_toArray, List.getElem_cons_zero, List.getElem_cons_succ, List.setIfInBounds_toArray, List.set_cons_zero, List.set_cons_succ]
          refine wpAnyH_take (i := 19) (v := (.int .i64 ((hops.length : Nat) : Int))) rfl (by kernel_rfl) (by kernel_rfl) (by kernel_rfl) (fun _ _ _ h => h) (Or.inl ⟨by rfl, ?_⟩) hHeld ?_
          · intro w hSw; try dsimp only at hSw
            go_simp
          try simp only [Act.put, List.getElem_toArray, List.getElem_cons_zero, List.getElem_cons_succ, List.setIfInBounds_toArray, List.set_cons_zero, List.set_cons_succ]
          refine wpAnyH_take (i := 20) (v := (.bool true)) rfl (by kernel_rfl) (by kernel_rfl) (by kernel_rfl) (fun _ _ _ h => h) (Or.inl ⟨by rfl, ?_⟩) hHeld ?_
          · intro w hSw; try dsimp only at hSw
            go_simp
          try simp only [Act.put, List.getElem_toArray, List.getElem_cons_zero, List.getElem_cons_succ, List.setIfInBounds_toArray, List.set_cons_zero, List.set_cons_succ]
          refine wpAnyH_take (i := 21) (v := (.bool true)) rfl (by kernel_rfl) (by kernel_rfl) (by kernel_rfl) (fun _ _ _ h => h) (Or.inl ⟨by rfl, ?_⟩) hHeld ?_
          · intro w hSw; try dsimp only at hSw
            go_simp
          try simp only [Act.put, List.getElem_toArray, List.getElem_cons_zero, List.getElem_cons_succ, List.setIfInBounds_toArray, List.set_cons_zero, List.set_cons_succ]
          refine wpAnyH_take (i := 22) (v := (.bool true)) rfl (by kernel_rfl) (by kernel_rfl) (by kernel_rfl) (fun _ _ _ h => h) (Or.inl ⟨by rfl, ?_⟩) hHeld ?_
          · intro w hSw; try dsimp only at hSw
            go_simp
          try simp only [Act.put, List.getElem_toArray, List.getElem_cons_zero, List.getElem_cons_succ, List.setIfInBounds_toArray, List.set_cons_zero, List.set_cons_succ]
          refine wpAnyH_take (i := 23) (v := (.bool false)) rfl (by kernel_rfl) (by kernel_rfl) (by kernel_rfl) (fun _ _ _ h => h) (Or.inl ⟨by rfl, ?_⟩) hHeld ?_
          · intro w hSw; try dsimp only at hSw
            go_simp
          try simp only [Act.put, List.getElem_toArray, List.getElem_cons_zero, List.getElem_cons_succ, List.setIfInBounds_toArray, List.set_cons_zero, List.set_cons_succ]
          refine wpAnyH_take (i := 24) (v := (.bool true)) rfl (by kernel_rfl) (by kernel_rfl) (by kernel_rfl) (fun _ _ _ h => h) (Or.inl ⟨by rfl, ?_⟩) hHeld ?_
          · intro w hSw; try dsimp only at hSw
            go_simp
          try simp only [Act.put, List.getElem_toArray, List.getElem_cons_zero, List.getElem_cons_succ, List.setIfInBounds_toArray, List.set_cons_zero, List.set_cons_succ]
          refine wpAnyH_take (i := 25) (v := (.bool true)) rfl (by kernel_rfl) (by kernel_rfl) (by kernel_rfl) (fun _ _ _ h => h) (Or.inl ⟨by rfl, ?_⟩) hHeld ?_
          · intro w hSw; try dsimp only at hSw
            go_simp
          try simp only [Act.put, List.getElem_toArray, List.getElem_cons_zero, List.getElem_cons_succ, List.setIfInBounds_toArray, List.set_cons_zero, List.set_cons_succ]
          refine wpAnyH_take (i := 26) (v := (.bool true)) rfl (by kernel_rfl) (by kernel_rfl) (by kernel_rfl) (fun _ _ _ h => h) (Or.inl ⟨by rfl, ?_⟩) hHeld ?_
          · intro w hSw; try dsimp only at hSw
            go_simp
          try simp only [Act.put, List.getElem_toArray, List.getElem_cons_zero, List.getElem_cons_succ, List.setIfInBounds_toArray, List.set_cons_zero, List.set_cons_succ]
          refine wpAnyH_take (i := 27) (v := (.agg #[.int .u64 0, .int .u64 0, .int .u64 0, .int .u64 0])) rfl (by kernel_rfl) (by kernel_rfl) (by kernel_rfl) (fun _ _ _ h => h) (Or.inl ⟨by rfl, ?_⟩) hHeld ?_
          · intro w hSw; try dsimp only at hSw
            go_simp
          try simp only [Act.put, List.getElem_toArray, List.getElem_cons_zero, List.getElem_cons_succ, List.setIfInBounds_toArray, List.set_cons_zero, List.set_cons_succ]
          refine wpAnyH_take (i := 29) (v := (.agg #[.int .u64 0, .int .u64 0, .int .u64 0, .int .u64 0])) rfl (by kernel_rfl) (by kernel_rfl) (by kernel_rfl) (fun _ _ _ h => h) (Or.inl ⟨by rfl, ?_⟩) hHeld ?_
          · intro w hSw; try dsimp only at hSw
            go_simp
          try simp only [Act.put, List.getElem_toArray, List.getElem_cons_zero, List.getElem_cons_succ, List.setIfInBounds_toArray, List.set_cons_zero, List.set_cons_succ]
          refine wpAnyH_ready (rs := [28]) (by kernel_rfl) (by simp) ?_
          refine AllReadyH.cons rfl (fun K hK => ?_) AllReadyH.nil
          go_simp
          refine (words_zero _).mono ?_
          rintro e w16 ⟨rfl, hb16⟩
          refine hK.out _ _ ?_ (fun hHeld => ?_)
          · exact MK.out _ (b15.trans (hb16.mono b15.size))
          clear hK K
          try simp only [Act.put, List.getElem_toArray, List.getElem_cons_zero, List.getElem_cons_succ, List.setIfInBounds_toArray, List.set_cons_zero, List.set_cons_succ]
          refine wpAnyH_take (i := 30) (v := (.bool true)) rfl (by kernel_rfl) (by kernel_rfl) (by kernel_rfl) (fun _ _ _ h => h) (Or.inl ⟨by rfl, ?_⟩) hHeld ?_
          · intro w hSw; try dsimp only at hSw
            go_simp
          try simp only [Act.put, List.getElem_toArray, List.getElem_cons_zero, List.getElem_cons_succ, List.setIfInBounds_toArray, List.set_cons_zero, List.set_cons_succ]
          refine wpAnyH_take (i := 31) (v := (.bool true)) rfl (by kernel_rfl) (by kernel_rfl) (by kernel_rfl) (fun _ _ _ h => h) (Or.inl ⟨by rfl, ?_⟩) hHeld ?_
          · intro w hSw; try dsimp only at hSw
            go_simp
          try simp only [Act.put, List.getElem_toArray, List.getElem_cons_zero, List.getElem_cons_succ, List.setIfInBounds_toArray, List.set_cons_zero, List.set_cons_succ]
          refine wpAnyH_take (i := 32) (v := (.bool true)) rfl (by kernel_rfl) (by kernel_rfl) (by kernel_rfl) (fun _ _ _ h => h) (Or.inl ⟨by rfl, ?_⟩) hHeld ?_
          · intro w hSw; try dsimp only at hSw
            go_simp
          try simp only [Act.put, List.getElem_toArray, List.getElem_cons_zero, List.getElem_cons_succ, List.setIfInBounds_toArray, List.set_cons_zero, List.set_cons_succ]
          refine wpAnyH_done (by kernel_rfl) ?_ _
          go_wp2
          go_ret
          exact ⟨rfl, HW12.out.trans ((BQ.out.trans ((b15.trans (hb16.mono b15.size)).mono BQ.out.size)).mono HW12.out.size)⟩
end Go.Proofs.Qxb6609340aDoor
