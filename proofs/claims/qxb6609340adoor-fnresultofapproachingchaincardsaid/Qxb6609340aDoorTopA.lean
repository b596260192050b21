import Derived.Test.Qxb6609340aDoorAnswer
import Derived.Deep.RegionHeld3
namespace Go.Proofs.Qxb6609340aDoor
open Go.ChangeShapes Go.WideShapes Go.ChangeAt Go.RowKit
set_option linter.unusedVariables false
set_option linter.unusedSimpArgs false

theorem not_inOpen_self (x b : Id) : ¬ InOpen x x b := by
  unfold InOpen
  split <;> omega
theorem answer_done (key start next : Id) : answer key [] [] start next true = ⟨[start, next], [], true, false⟩ := by simp [answer]
theorem answer_on (key start next : Id) (h : InOpen next start key) : answer key [] [] start next false = ⟨[start, next], [], false, false⟩ := by
  have : next ≠ start := fun e => not_inOpen_self start key (e ▸ h)
  simp [answer, this, h]
theorem answer_bad (key start next : Id) (h : ¬ InOpen next start key) : (answer key [] [] start next false).bad = true ∧ (answer key [] [] start next false).done = false := by
  by_cases e : next = start
  · simp [answer, e, dead]
  · simp [answer, e, h]

/-- The two sentinels, at the first two blocks. -/
def Glob0 (w : World) : Prop := 1 < w.heap.size ∧ (∃ v, IsErr v ∧ w.cell? ⟨0, 0, none⟩ = some v) ∧ ∃ v, IsErr v ∧ w.cell? ⟨1, 0, none⟩ = some v

def TopPost (w : World) (e : Ending) (w' : World) : Prop := e = .returned (.bool true) ∧ Below w.heap.size w w'

set_option maxRecDepth 100000 in
set_option maxHeartbeats 1600000 in
theorem topA_any (start key next : Id) (d : Bool) (w : World) (hg : Glob0 w) (ws : start.wf) (wk : key.wf) (wn : next.wf) :
    Calls Tryd.prog 3 #[idV start, idV key, idV next, .bool d] w fun e w' => TopPost w e w' := by
  have HX := hide (And.intro ws (And.intro wk wn))
  have HG := hide hg
  clear ws wk wn hg
  go_enter Tryd.func3, Tryd.ntmps3
  go_upto_region 1 with fail
  obtain ⟨w3, hw3⟩ : ∃ z, z = ((w.alloc (box start 23)).alloc (box key 23)).alloc (box next 23) := ⟨_, rfl⟩
  rw [← hw3]
  obtain ⟨b1, b2, b3, hs3, hb3⟩ : IdAt w3 w.heap.size 0 start ∧ IdAt w3 (w.heap.size + 1) 0 key ∧ IdAt w3 (w.heap.size + 1 + 1) 0 next ∧ w3.heap.size = w.heap.size + 1 + 1 + 1 ∧ Below w.heap.size w w3 := by
    rw [hw3]; exact boxes3 w start key next 23
  have B1 := hide b1
  have B2 := hide b2
  have B3 := hide b3
  have HB3 := hide hb3
  clear hw3 b1 b2 b3 hb3
  go_cut [9] from 16 (fun s wx => ∃ bw F, s = .pointer (some ⟨bw, 0, none⟩) ∧ Hid (Walk wx F bw key [start] [] false false) ∧ Hid (Below w3.heap.size w3 wx) ∧ Hid (∀ k, k < w3.heap.size → ¬ F k))
  case first =>
    have MK := hide (show ∀ W, Below w3.heap.size w3 W → (Below w3.heap.size w3 W ∧ (W.cell? ⟨w.heap.size, 0, none⟩ = some (.int .u64 start.a) ∧ W.cell? ⟨w.heap.size, 1, none⟩ = some (.int .u64 start.b) ∧ W.cell? ⟨w.heap.size, 2, none⟩ = some (.int .u64 start.c) ∧ W.cell? ⟨w.heap.size, 3, none⟩ = some (.int .u64 start.d)) ∧ (W.cell? ⟨w.heap.size + 1, 0, none⟩ = some (.int .u64 key.a) ∧ W.cell? ⟨w.heap.size + 1, 1, none⟩ = some (.int .u64 key.b) ∧ W.cell? ⟨w.heap.size + 1, 2, none⟩ = some (.int .u64 key.c) ∧ W.cell? ⟨w.heap.size + 1, 3, none⟩ = some (.int .u64 key.d))) from fun W hW => ⟨hW, (B1.out.later hW (by omega)).cells0, (B2.out.later hW (by omega)).cells0⟩)
    refine wp_region_held_drew (S := fun W => Below w3.heap.size w3 W ∧ (W.cell? ⟨w.heap.size, 0, none⟩ = some (.int .u64 start.a) ∧ W.cell? ⟨w.heap.size, 1, none⟩ = some (.int .u64 start.b) ∧ W.cell? ⟨w.heap.size, 2, none⟩ = some (.int .u64 start.c) ∧ W.cell? ⟨w.heap.size, 3, none⟩ = some (.int .u64 start.d)) ∧ (W.cell? ⟨w.heap.size + 1, 0, none⟩ = some (.int .u64 key.a) ∧ W.cell? ⟨w.heap.size + 1, 1, none⟩ = some (.int .u64 key.b) ∧ W.cell? ⟨w.heap.size + 1, 2, none⟩ = some (.int .u64 key.c) ∧ W.cell? ⟨w.heap.size + 1, 3, none⟩ = some (.int .u64 key.d))) (by kernel_rfl) ?_ (fun hHeld => ?_)
    · exact MK.out _ (below_drew _)
    refine wpAnyH_take (i := 0) (v := (idV start)) rfl (by kernel_rfl) (by kernel_rfl) (by kernel_rfl) (fun _ _ _ h => h) (Or.inl ⟨by rfl, ?_⟩) hHeld ?_
    · intro w hSw; try dsimp only at hSw
      go_simp
    try simp only [Act.put, List.getElem_toArray, List.getElem_cons_zero, List.getElem_cons_succ, List.setIfInBounds_toArray, List.set_cons_zero, List.set_cons_succ]
    refine wpAnyH_take (i := 2) (v := (idV key)) rfl (by kernel_rfl) (by kernel_rfl) (by kernel_rfl) (fun _ _ _ h => h) (Or.inl ⟨by rfl, ?_⟩) hHeld ?_
    · intro w hSw; try dsimp only at hSw
      go_simp
    try simp only [Act.put, List.getElem_toArray, List.getElem_cons_zero, List.getElem_cons_succ, List.setIfInBounds_toArray, List.set_cons_zero, List.set_cons_succ]
    refine wpAnyH_ready (rs := [1]) (by kernel_rfl) (by simp) ?_
    refine AllReadyH.cons rfl (fun K hK => ?_) AllReadyH.nil
    go_simp
    refine (newID_any start _).mono ?_
    rintro e w4 ⟨rfl, hb4⟩
    refine hK.out _ _ ?_ (fun hHeld => ?_)
    · exact MK.out _ ((below_drew w3).trans hb4)
    clear hK K
    try simp only [Act.put, List.getElem_toArray, List.getElem_cons_zero, List.getElem_cons_succ, List.setIfInBounds_toArray, List.set_cons_zero, List.set_cons_succ]
    refine wpAnyH_ready (rs := [3]) (by kernel_rfl) (by simp) ?_
    refine AllReadyH.cons rfl (fun K hK => ?_) AllReadyH.nil
    go_simp
    refine (newID_any key _).mono ?_
    rintro e w5 ⟨rfl, hb5⟩
    refine hK.out _ _ ?_ (fun hHeld => ?_)
    · exact MK.out _ (((below_drew w3).trans hb4).trans (hb5.mono ((below_drew w3).trans hb4).size))
    clear hK K
    try simp only [Act.put, List.getElem_toArray, List.getElem_cons_zero, List.getElem_cons_succ, List.setIfInBounds_toArray, List.set_cons_zero, List.set_cons_succ]
    have h5 : Below w3.heap.size w3 w5 := ((below_drew w3).trans hb4).trans (hb5.mono ((below_drew w3).trans hb4).size)
    refine wpAnyH_ready (rs := [4]) (by kernel_rfl) (by simp) ?_
    refine AllReadyH.cons rfl (fun K hK => ?_) AllReadyH.nil
    go_simp
    refine (beginAt_any start key _).mono ?_
    rintro e w6 ⟨bw, F, rfl, hw6, hb6, hF6⟩
    refine hK.out _ _ ?_ (fun hHeld => ?_)
    · exact MK.out _ (h5.trans (hb6.mono h5.size))
    clear hK K
    try simp only [Act.put, List.getElem_toArray, List.getElem_cons_zero, List.getElem_cons_succ, List.setIfInBounds_toArray, List.set_cons_zero, List.set_cons_succ]
    refine wpAnyH_take (i := 5) (v := (.pointer (some ⟨bw, 0, none⟩))) rfl (by kernel_rfl) (by kernel_rfl) (by kernel_rfl) (fun _ _ _ h => h) (Or.inl ⟨by rfl, ?_⟩) hHeld ?_
    · intro w hSw; try dsimp only at hSw
      go_simp
    try simp only [Act.put, List.getElem_toArray, List.getElem_cons_zero, List.getElem_cons_succ, List.setIfInBounds_toArray, List.set_cons_zero, List.set_cons_succ]
    refine wpAnyH_done (by kernel_rfl) ?_ _
    go_wp2_with fail
    go_meet
    exact ⟨bw, F, rfl, hide hw6, hide (h5.trans (hb6.mono h5.size)), hide (fun k hk => hF6 k (Nat.lt_of_lt_of_le hk h5.size))⟩
  case rest =>
  obtain ⟨bw, F, rfl, hw4, hb4, hF4⟩ := hcut
  rename World => w4
  have G4 := hide (show Glob w4 F from by
    obtain ⟨g1, ⟨v0, e0, c0⟩, v1, e1, c1⟩ := HG.out
    have hb := HB3.out.trans (hb4.out.mono HB3.out.size)
    exact ⟨hF4.out 0 (by omega), hF4.out 1 (by omega), Nat.lt_of_lt_of_le g1 hb.size, ⟨v0, e0, (hb.cell (p := ⟨0, 0, none⟩) (by simp; omega)).trans c0⟩, v1, e1, (hb.cell (p := ⟨1, 0, none⟩) (by simp; omega)).trans c1⟩)
  obtain ⟨s0, s1, s2, s3⟩ := (B1.out.later hb4.out (by omega)).cells0
  have hs4 : w.heap.size < w4.heap.size := by have := hb4.out.size; omega
  go_wp2_with fail
  refine (next_on F bw key [] [] start w4 hw4.out (by simp)).mono ?_
  rintro e w5 ⟨rfl, hb5⟩
  have hb35 := hide (hb4.out.trans (hb5.mono hb4.out.size))
  have W5 := hide (hw4.out.below hb5)
  have G5 := hide (G4.out.step (Step.of_below F hb5))
  clear hw4 G4 hb4 s0 s1 s2 s3 hs4
  go_upto_region 3 with fail
  obtain ⟨w6, hw6⟩ : ∃ z, z = w5.alloc (box start 27) := ⟨_, rfl⟩
  rw [← hw6]
  have b5 : Below w5.heap.size w5 w6 := by rw [hw6]; exact (Below.refl _ _).alloc (Nat.le_refl _) _
  have X6 := hide (show IdAt w6 w5.heap.size 0 start by rw [hw6]; exact idAt_new w5 start 27)
  have hs6 : w5.heap.size < w6.heap.size := by rw [hw6]; simp
  have hb36 := hide (hb35.out.trans (b5.mono hb35.out.size))
  have W6 := hide (W5.out.below b5)
  have G6 := hide (G5.out.step (Step.of_below F b5))
  clear hw6 b5 hb35 W5 G5 hb5
  go_cut [33] from 26 (fun s wx => s = .bool false ∧ Hid (Below w6.heap.size w6 wx))
  case first =>
    have t : same4 start.a start.b start.c start.d start.a start.b start.c start.d = true := by rw [same4_ids]; simp
    have hle : w.heap.size < w3.heap.size := by omega
    have MK := hide (show ∀ W, Below w6.heap.size w6 W → (Below w6.heap.size w6 W ∧ (W.cell? ⟨w.heap.size, 0, none⟩ = some (.int .u64 start.a) ∧ W.cell? ⟨w.heap.size, 1, none⟩ = some (.int .u64 start.b) ∧ W.cell? ⟨w.heap.size, 2, none⟩ = some (.int .u64 start.c) ∧ W.cell? ⟨w.heap.size, 3, none⟩ = some (.int .u64 start.d)) ∧ (W.cell? ⟨w5.heap.size, 0, none⟩ = some (.int .u64 start.a) ∧ W.cell? ⟨w5.heap.size, 1, none⟩ = some (.int .u64 start.b) ∧ W.cell? ⟨w5.heap.size, 2, none⟩ = some (.int .u64 start.c) ∧ W.cell? ⟨w5.heap.size, 3, none⟩ = some (.int .u64 start.d))) from fun W hW => ⟨hW, (B1.out.later (hb36.out.trans (hW.mono hb36.out.size)) hle).cells0, (X6.out.later hW hs6).cells0⟩)
    refine wp_region_held_drew (S := fun W => Below w6.heap.size w6 W ∧ (W.cell? ⟨w.heap.size, 0, none⟩ = some (.int .u64 start.a) ∧ W.cell? ⟨w.heap.size, 1, none⟩ = some (.int .u64 start.b) ∧ W.cell? ⟨w.heap.size, 2, none⟩ = some (.int .u64 start.c) ∧ W.cell? ⟨w.heap.size, 3, none⟩ = some (.int .u64 start.d)) ∧ (W.cell? ⟨w5.heap.size, 0, none⟩ = some (.int .u64 start.a) ∧ W.cell? ⟨w5.heap.size, 1, none⟩ = some (.int .u64 start.b) ∧ W.cell? ⟨w5.heap.size, 2, none⟩ = some (.int .u64 start.c) ∧ W.cell? ⟨w5.heap.size, 3, none⟩ = some (.int .u64 start.d))) (by kernel_rfl) ?_ (fun hHeld => ?_)
    · exact MK.out _ (below_drew _)
    refine wpAnyH_take (i := 0) (v := (.bool true)) rfl (by kernel_rfl) (by kernel_rfl) (by kernel_rfl) (fun _ _ _ h => h) (Or.inl ⟨by rfl, ?_⟩) hHeld ?_
    · intro w hSw; try dsimp only at hSw
      go_simp
    try simp only [Act.put, List.getElem_toArray, List.getElem_cons_zero, List.getElem_cons_succ, List.setIfInBounds_toArray, List.set_cons_zero, List.set_cons_succ]
    refine wpAnyH_take (i := 1) (v := (.bool false)) rfl (by kernel_rfl) (by kernel_rfl) (by kernel_rfl) (fun _ _ _ h => h) (Or.inl ⟨by rfl, ?_⟩) hHeld ?_
    · intro w hSw; try dsimp only at hSw
      go_simp
    try simp only [Act.put, List.getElem_toArray, List.getElem_cons_zero, List.getElem_cons_succ, List.setIfInBounds_toArray, List.set_cons_zero, List.set_cons_succ]
    refine wpAnyH_take (i := 2) (v := (.bool false)) rfl (by kernel_rfl) (by kernel_rfl) (by kernel_rfl) (fun _ _ _ h => h) (Or.inl ⟨by rfl, ?_⟩) hHeld ?_
    · intro w hSw; try dsimp only at hSw
      go_simp
    try simp only [Act.put, List.getElem_toArray, List.getElem_cons_zero, List.getElem_cons_succ, List.setIfInBounds_toArray, List.set_cons_zero, List.set_cons_succ]
    refine wpAnyH_take (i := 3) (v := (idV start)) rfl (by kernel_rfl) (by kernel_rfl) (by kernel_rfl) (fun _ _ _ h => h) (Or.inl ⟨by rfl, ?_⟩) hHeld ?_
    · intro w hSw; try dsimp only at hSw
      go_simp
    try simp only [Act.put, List.getElem_toArray, List.getElem_cons_zero, List.getElem_cons_succ, List.setIfInBounds_toArray, List.set_cons_zero, List.set_cons_succ]
    refine wpAnyH_take (i := 5) (v := (idV start)) rfl (by kernel_rfl) (by kernel_rfl) (by kernel_rfl) (fun _ _ _ h => h) (Or.inl ⟨by rfl, ?_⟩) hHeld ?_
    · intro w hSw; try dsimp only at hSw
      go_simp
    try simp only [Act.put, List.getElem_toArray, List.getElem_cons_zero, List.getElem_cons_succ, List.setIfInBounds_toArray, List.set_cons_zero, List.set_cons_succ]
    refine wpAnyH_ready (rs := [4]) (by kernel_rfl) (by simp) ?_
    refine AllReadyH.cons rfl (fun K hK => ?_) AllReadyH.nil
    go_simp
    refine (words_any start _).mono ?_
    rintro e w7 ⟨rfl, hb7⟩
    refine hK.out _ _ ?_ (fun hHeld => ?_)
    · exact MK.out _ ((below_drew w6).trans hb7)
    clear hK K
    try simp only [Act.put, List.getElem_toArray, List.getElem_cons_zero, List.getElem_cons_succ, List.setIfInBounds_toArray, List.set_cons_zero, List.set_cons_succ]
    refine wpAnyH_take (i := 6) (v := (.bool false)) rfl (by kernel_rfl) (by kernel_rfl) (by kernel_rfl) (fun _ _ _ h => h) (Or.inl ⟨by rfl, ?_⟩) hHeld ?_
    · intro w hSw; try dsimp only at hSw
      go_simp
    try simp only [Act.put, List.getElem_toArray, List.getElem_cons_zero, List.getElem_cons_succ, List.setIfInBounds_toArray, List.set_cons_zero, List.set_cons_succ]
    refine wpAnyH_take (i := 7) (v := (.bool false)) rfl (by kernel_rfl) (by kernel_rfl) (by kernel_rfl) (fun _ _ _ h => h) (Or.inl ⟨by rfl, ?_⟩) hHeld ?_
    · intro w hSw; try dsimp only at hSw
      go_simp
    try simp only [Act.put, List.getElem_toArray, List.getElem_cons_zero, List.getElem_cons_succ, List.setIfInBounds_toArray, List.set_cons_zero, List.set_cons_succ]
    refine wpAnyH_done (by kernel_rfl) ?_ _
    go_wp2_with fail
    go_meet
    exact ⟨rfl, hide ((below_drew w6).trans hb7)⟩
  case rest =>
  obtain ⟨rfl, hb7⟩ := hcut
  rename World => w7
  have W7 := hide (W6.out.below hb7.out)
  have G7 := hide (G6.out.step (Step.of_below F hb7.out))
  have hb37 := hide (hb36.out.trans (hb7.out.mono hb36.out.size))
  obtain ⟨n0, n1, n2, n3⟩ := (B3.out.later hb37.out (by omega)).cells0
  clear W6 G6 hb36 hb7 X6 hs6
  go_wp2_with fail
  refine (newID_any next w7).mono ?_
  rintro e w8 ⟨rfl, hb8⟩
  have hb38 := hide (hb37.out.trans (hb8.mono hb37.out.size))
  have W8 := hide (W7.out.below hb8)
  have G8 := hide (G7.out.step (Step.of_below F hb8))
  clear n0 n1 n2 n3 hb8 W7 G7 hb37
  go_wp2_with fail
  have hF8 : ∀ k, k < w3.heap.size → ¬ F k := hF4.out
  refine (answer_any F bw key [] [] start next d w8 W8.out G8.out (by simp) (by simp) HX.out.2.1 HX.out.1 HX.out.2.2).mono ?_
  rintro e w9 ⟨v, F9, rfl, he, hh, hs⟩
  have hb39 := hide (hb38.out.trans (hs.below hb38.out.size hF8))
  clear hs hF8 W8 G8 hb38
  cases d
  · by_cases hio : InOpen next start key
    · have ea := answer_on key start next hio
      have HIO := hide hio
      rw [ea] at he hh
      have H9 := hide hh
      clear hh ea hio
      rcases he with ⟨_, rfl⟩ | ⟨h, _⟩
      · go_wp2_with fail
        refine (next_on F9 bw key [start] [] next w9 H9.out (by simp)).mono ?_
        rintro e w10 ⟨rfl, hb10⟩
        have hba := hide ((hb39.out.trans (hb10.mono hb39.out.size)).alloc (hb39.out.trans (hb10.mono hb39.out.size)).size (box next 27))
        have X10 := hide (idAt_new w10 next 27)
        obtain ⟨n0, n1, n2, n3⟩ := (B3.out.later (hb39.out.trans (hb10.mono hb39.out.size)) (by omega)).cells0
        obtain ⟨s0, s1, s2, s3⟩ := (B1.out.later (hb39.out.trans (hb10.mono hb39.out.size)) (by omega)).cells0
        obtain ⟨k0, k1, k2, k3⟩ := (B2.out.later (hb39.out.trans (hb10.mono hb39.out.size)) (by omega)).cells0
        have z0 : w.heap.size < w10.heap.size := by have := (hb39.out.trans (hb10.mono hb39.out.size)).size; omega
        have z1 : w.heap.size + 1 < w10.heap.size := by have := (hb39.out.trans (hb10.mono hb39.out.size)).size; omega
        have z2 : w.heap.size + 1 + 1 < w10.heap.size := by have := (hb39.out.trans (hb10.mono hb39.out.size)).size; omega
        clear hb10 H9
        go_wp2_with fail
        refine (zzInOpen_any next start key _ HX.out.2.2 HX.out.1 HX.out.2.1).mono ?_
        rintro e w11 ⟨rfl, hb11⟩
        rw [decide_eq_true HIO.out]
        have hb311 := hide (hba.out.trans (hb11.mono hba.out.size))
        have X11 := hide (X10.out.later hb11 (by simp))
        have hs11 : w10.heap.size < w11.heap.size := by have := hb11.size; simp at this; omega
        clear n0 n1 n2 n3 s0 s1 s2 s3 k0 k1 k2 k3 hb11 z0 z1 z2 hb39
        go_wp2_with fail
        have t : same4 next.a next.b next.c next.d next.a next.b next.c next.d = true := by rw [same4_ids]; simp
        have MK := hide (show ∀ W, Below w11.heap.size w11 W → (Below w11.heap.size w11 W ∧ (W.cell? ⟨w10.heap.size, 0, none⟩ = some (.int .u64 next.a) ∧ W.cell? ⟨w10.heap.size, 1, none⟩ = some (.int .u64 next.b) ∧ W.cell? ⟨w10.heap.size, 2, none⟩ = some (.int .u64 next.c) ∧ W.cell? ⟨w10.heap.size, 3, none⟩ = some (.int .u64 next.d)) ∧ (W.cell? ⟨w.heap.size + 1 + 1, 0, none⟩ = some (.int .u64 next.a) ∧ W.cell? ⟨w.heap.size + 1 + 1, 1, none⟩ = some (.int .u64 next.b) ∧ W.cell? ⟨w.heap.size + 1 + 1, 2, none⟩ = some (.int .u64 next.c) ∧ W.cell? ⟨w.heap.size + 1 + 1, 3, none⟩ = some (.int .u64 next.d))) from fun W hW => ⟨hW, (X11.out.later hW hs11).cells0, (B3.out.later (hb311.out.trans (hW.mono hb311.out.size)) (by omega)).cells0⟩)
        refine wp_region_held_drew (S := fun W => Below w11.heap.size w11 W ∧ (W.cell? ⟨w10.heap.size, 0, none⟩ = some (.int .u64 next.a) ∧ W.cell? ⟨w10.heap.size, 1, none⟩ = some (.int .u64 next.b) ∧ W.cell? ⟨w10.heap.size, 2, none⟩ = some (.int .u64 next.c) ∧ W.cell? ⟨w10.heap.size, 3, none⟩ = some (.int .u64 next.d)) ∧ (W.cell? ⟨w.heap.size + 1 + 1, 0, none⟩ = some (.int .u64 next.a) ∧ W.cell? ⟨w.heap.size + 1 + 1, 1, none⟩ = some (.int .u64 next.b) ∧ W.cell? ⟨w.heap.size + 1 + 1, 2, none⟩ = some (.int .u64 next.c) ∧ W.cell? ⟨w.heap.size + 1 + 1, 3, none⟩ = some (.int .u64 next.d))) (by kernel_rfl) ?_ (fun hHeld => ?_)
        · exact MK.out _ (below_drew _)
        refine wpAnyH_take (i := 0) (v := (idV next)) rfl (by kernel_rfl) (by kernel_rfl) (by kernel_rfl) (fun _ _ _ h => h) (Or.inl ⟨by rfl, ?_⟩) hHeld ?_
        · intro w hSw; try dsimp only at hSw
          go_simp
        try simp only [Act.put, List.getElem_toArray, List.getElem_cons_zero, List.getElem_cons_succ, List.setIfInBounds_toArray, List.set_cons_zero, List.set_cons_succ]
        refine wpAnyH_take (i := 2) (v := (idV next)) rfl (by kernel_rfl) (by kernel_rfl) (by kernel_rfl) (fun _ _ _ h => h) (Or.inl ⟨by rfl, ?_⟩) hHeld ?_
        · intro w hSw; try dsimp only at hSw
          go_simp
        try simp only [Act.put, List.getElem_toArray, List.getElem_cons_zero, List.getElem_cons_succ, List.setIfInBounds_toArray, List.set_cons_zero, List.set_cons_succ]
        refine wpAnyH_ready (rs := [1]) (by kernel_rfl) (by simp) ?_
        refine AllReadyH.cons rfl (fun K hK => ?_) AllReadyH.nil
        go_simp
        refine (words_any next _).mono ?_
        rintro e w12 ⟨rfl, hb12⟩
        refine hK.out _ _ ?_ (fun hHeld => ?_)
        · exact MK.out _ ((below_drew w11).trans hb12)
        clear hK K
        try simp only [Act.put, List.getElem_toArray, List.getElem_cons_zero, List.getElem_cons_succ, List.setIfInBounds_toArray, List.set_cons_zero, List.set_cons_succ]
        refine wpAnyH_take (i := 3) (v := (.bool true)) rfl (by kernel_rfl) (by kernel_rfl) (by kernel_rfl) (fun _ _ _ h => h) (Or.inl ⟨by rfl, ?_⟩) hHeld ?_
        · intro w hSw; try dsimp only at hSw
          go_simp
        try simp only [Act.put, List.getElem_toArray, List.getElem_cons_zero, List.getElem_cons_succ, List.setIfInBounds_toArray, List.set_cons_zero, List.set_cons_succ]
        refine wpAnyH_take (i := 4) (v := (.bool true)) rfl (by kernel_rfl) (by kernel_rfl) (by kernel_rfl) (fun _ _ _ h => h) (Or.inl ⟨by rfl, ?_⟩) hHeld ?_
        · intro w hSw; try dsimp only at hSw
          go_simp
        try simp only [Act.put, List.getElem_toArray, List.getElem_cons_zero, List.getElem_cons_succ, List.setIfInBounds_toArray, List.set_cons_zero, List.set_cons_succ]
        refine wpAnyH_done (by kernel_rfl) ?_ _
        go_wp2
        go_ret
        exact ⟨rfl, HB3.out.trans ((hb311.out.trans (((below_drew w11).trans hb12).mono hb311.out.size)).mono HB3.out.size)⟩
      · simp at h
    · have ea := answer_bad key start next hio
      have HIO := hide hio
      rcases he with ⟨h, _⟩ | ⟨_, t0, p0, rfl⟩
      · rw [ea.1] at h
        simp at h
      · have H9 := hide hh
        have hov : ((answer key [] [] start next false).done || (answer key [] [] start next false).bad) = true := by rw [ea.1]; simp
        have HO := hide hov
        clear hh ea hio hov
        go_wp2_with fail
        refine (next_over F9 bw key _ _ _ _ w9 H9.out HO.out).mono ?_
        rintro e w10 ⟨rfl, hb10⟩
        have hba := hide ((hb39.out.trans (hb10.mono hb39.out.size)).alloc (hb39.out.trans (hb10.mono hb39.out.size)).size (box zero 27))
        have X10 := hide (idAt_new w10 zero 27)
        obtain ⟨n0, n1, n2, n3⟩ := (B3.out.later (hb39.out.trans (hb10.mono hb39.out.size)) (by omega)).cells0
        obtain ⟨s0, s1, s2, s3⟩ := (B1.out.later (hb39.out.trans (hb10.mono hb39.out.size)) (by omega)).cells0
        obtain ⟨k0, k1, k2, k3⟩ := (B2.out.later (hb39.out.trans (hb10.mono hb39.out.size)) (by omega)).cells0
        have z0 : w.heap.size < w10.heap.size := by have := (hb39.out.trans (hb10.mono hb39.out.size)).size; omega
        have z1 : w.heap.size + 1 < w10.heap.size := by have := (hb39.out.trans (hb10.mono hb39.out.size)).size; omega
        have z2 : w.heap.size + 1 + 1 < w10.heap.size := by have := (hb39.out.trans (hb10.mono hb39.out.size)).size; omega
        clear hb10 H9
        clear HO
        go_wp2_with fail
        refine (zzInOpen_any next start key _ HX.out.2.2 HX.out.1 HX.out.2.1).mono ?_
        rintro e w11 ⟨rfl, hb11⟩
        rw [decide_eq_false HIO.out]
        have hb311 := hide (hba.out.trans (hb11.mono hba.out.size))
        obtain ⟨y0, y1, y2, y3⟩ := (X10.out.later hb11 (by simp)).cells0
        clear n0 n1 n2 n3 s0 s1 s2 s3 k0 k1 k2 k3 hb11 z0 z1 z2 hb39
        go_wp2_with fail
        refine (words_any zero _).mono ?_
        rintro e w12 ⟨rfl, hb12⟩
        have hb312 := hide (hb311.out.trans (hb12.mono hb311.out.size))
        clear y0 y1 y2 y3 hb12
        have t : same4 0 0 0 0 0 0 0 0 = true := by rfl
        go_wp2
        go_ret
        exact ⟨rfl, HB3.out.trans (hb312.out.mono HB3.out.size)⟩
  · have ea := answer_done key start next
    rw [ea] at he hh
    have H9 := hide hh
    clear hh ea
    rcases he with ⟨_, rfl⟩ | ⟨h, _⟩
    · (
        go_wp2_with fail
        refine (next_over F9 bw key _ _ _ _ w9 H9.out rfl).mono ?_
        rintro e w10 ⟨rfl, hb10⟩
        have hba := hide ((hb39.out.trans (hb10.mono hb39.out.size)).alloc (hb39.out.trans (hb10.mono hb39.out.size)).size (box zero 27))
        have X10 := hide (idAt_new w10 zero 27)
        obtain ⟨n0, n1, n2, n3⟩ := (B3.out.later (hb39.out.trans (hb10.mono hb39.out.size)) (by omega)).cells0
        obtain ⟨s0, s1, s2, s3⟩ := (B1.out.later (hb39.out.trans (hb10.mono hb39.out.size)) (by omega)).cells0
        obtain ⟨k0, k1, k2, k3⟩ := (B2.out.later (hb39.out.trans (hb10.mono hb39.out.size)) (by omega)).cells0
        have z0 : w.heap.size < w10.heap.size := by have := (hb39.out.trans (hb10.mono hb39.out.size)).size; omega
        have z1 : w.heap.size + 1 < w10.heap.size := by have := (hb39.out.trans (hb10.mono hb39.out.size)).size; omega
        have z2 : w.heap.size + 1 + 1 < w10.heap.size := by have := (hb39.out.trans (hb10.mono hb39.out.size)).size; omega
        clear hb10 H9
        obtain ⟨y0, y1, y2, y3⟩ := X10.out.cells0
        go_wp2_with fail
        refine (words_any zero _).mono ?_
        rintro e w12 ⟨rfl, hb12⟩
        have hb312 := hide (hba.out.trans (hb12.mono hba.out.size))
        clear y0 y1 y2 y3 hb12
        have t : same4 0 0 0 0 0 0 0 0 = true := by rfl
        go_wp2
        go_ret
        exact ⟨rfl, HB3.out.trans (hb312.out.mono HB3.out.size)⟩)
    · simp at h
end Go.Proofs.Qxb6609340aDoor
