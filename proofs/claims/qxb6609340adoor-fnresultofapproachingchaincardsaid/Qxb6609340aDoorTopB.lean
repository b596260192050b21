import Derived.Test.Qxb6609340aDoorTopA
import Derived.Test.Qxb6609340aDoorResult
import Derived.Test.Qxb6609340aDoorPath
namespace Go.Proofs.Qxb6609340aDoor
open Go.ChangeShapes Go.WideShapes Go.ChangeAt Go.RowKit
set_option linter.unusedVariables false
set_option linter.unusedSimpArgs false

/-- Four boxes, the last of them zero. -/
theorem boxes4 (w : World) (x y z : Id) : ∃ w3, w3 = (((w.alloc (box x 23)).alloc (box y 23)).alloc (box z 23)).alloc (.cells #[.int .u64 0, .int .u64 0, .int .u64 0, .int .u64 0] 23) ∧
    IdAt w3 w.heap.size 0 x ∧ IdAt w3 (w.heap.size + 1) 0 y ∧ IdAt w3 (w.heap.size + 1 + 1) 0 z ∧ IdAt w3 (w.heap.size + 1 + 1 + 1) 0 zero ∧ w3.heap.size = w.heap.size + 1 + 1 + 1 + 1 ∧ Below w.heap.size w w3 := by
  obtain ⟨b1, b2, b3, hs, hb⟩ := boxes3 w x y z 23
  refine ⟨_, rfl, b1.alloc (by omega) _, b2.alloc (by omega) _, b3.alloc (by omega) _, ?_, by simp, hb.alloc (by omega) _⟩
  have h := idAt_new (((w.alloc (box x 23)).alloc (box y 23)).alloc (box z 23)) zero 23
  rwa [hs] at h

/-- What the law wants of the path, of the owner. -/
def wantP (start key next : Id) (d : Bool) : List Id := if d = true then [start, next] else if next = start then [] else if InOpen next start key then [start, next] else [start]
def wantO (next : Id) (d : Bool) : Id := if d = true then next else zero

theorem answer_path (start key next : Id) (d : Bool) : (answer key [] [] start next d).path = wantP start key next d := by
  cases d
  · by_cases e : next = start
    · simp [answer, wantP, e, dead]
    · by_cases h : InOpen next start key <;> simp [answer, wantP, e, h]
  · simp [answer, wantP]
theorem answer_isDone (start key next : Id) (d : Bool) : (answer key [] [] start next d).done = d := by
  cases d
  · by_cases e : next = start
    · simp [answer, e, dead]
    · by_cases h : InOpen next start key <;> simp [answer, e, h]
  · simp [answer]

theorem result_one (F : Nat → Prop) (bw : Nat) (start key next : Id) (d : Bool) (w : World) (h : Holds w F bw key (answer key [] [] start next d)) :
    Calls Tryd.prog 15 #[.pointer (some ⟨bw, 0, none⟩)] w fun e w' => ∃ vp, e = .returned (resV vp (wantO next d) 0) ∧ Row w' vp (wantP start key next d) ∧ Below w.heap.size w w' := by
  unfold Holds at h
  rw [answer_path, answer_isDone] at h
  cases d
  · exact result_open _ _ _ _ _ _ _ h
  · refine (result_done F bw key [start] _ next _ w h (by simp)).mono ?_
    rintro e w' ⟨vp, rfl, h1, h2⟩
    exact ⟨vp, rfl, h1, h2⟩

theorem pathIs_yes (v u : Value) (ids : List Id) (w : World) (hn : ids.length ≤ 1000000) (h : Ids w w.heap.size v ids) (h' : Ids w w.heap.size u ids) :
    Calls Tryd.prog 16 #[v, u] w fun e w' => e = .returned (.bool true) ∧ Below w.heap.size w w' := by
  refine (pathIs_any v u ids ids w hn hn h h').mono ?_
  rintro e w' ⟨rfl, hb⟩
  exact ⟨by rw [decide_eq_true rfl], hb⟩
theorem words_zero (w : World) : Calls Tryd.prog 10 #[.agg #[.int .u64 0, .int .u64 0, .int .u64 0, .int .u64 0]] w fun e w' => e = .returned (.agg #[.int .u64 0, .int .u64 0, .int .u64 0, .int .u64 0]) ∧ Below w.heap.size w w' := words_any zero w
theorem ids_one (w : World) (g c : Nat) (x : Id) (hg : g < w.heap.size) (h : IdAt w g 0 x) : Ids w w.heap.size (.slice (some ⟨g, 0, none⟩) 1 c) [x] :=
  ⟨_, c, rfl, fun k y hk => by
    match k, hk with
    | 0, hk => simp at hk; subst hk; exact ⟨g, 0, rfl, hg, h⟩
    | k + 1, hk => simp at hk⟩

theorem ids_two (w : World) (g c : Nat) (x y : Id) (hg : g < w.heap.size) (h : IdAt w g 0 x) (h' : IdAt w g 4 y) : Ids w w.heap.size (.slice (some ⟨g, 0, none⟩) 2 c) [x, y] :=
  ⟨_, c, rfl, fun k z hk => by
    match k, hk with
    | 0, hk => simp at hk; subst hk; exact ⟨g, 0, rfl, hg, h⟩
    | 1, hk => simp at hk; subst hk; exact ⟨g, 0, rfl, hg, h'⟩
    | k + 2, hk => simp at hk⟩
theorem idAt_two (w : World) (x y : Id) (t : TypeId) : Ids (w.alloc (.cells #[.int .u64 x.a, .int .u64 x.b, .int .u64 x.c, .int .u64 x.d, .int .u64 y.a, .int .u64 y.b, .int .u64 y.c, .int .u64 y.d] t)) (w.heap.size + 1) (.slice (some ⟨w.heap.size, 0, none⟩) 2 2) [x, y] := by
  have h := ids_two (w.alloc (.cells #[.int .u64 x.a, .int .u64 x.b, .int .u64 x.c, .int .u64 x.d, .int .u64 y.a, .int .u64 y.b, .int .u64 y.c, .int .u64 y.d] t)) w.heap.size 2 x y (by simp) ?_ ?_
  · simpa using h
  · intro k hk
    match k, hk with
    | 0, _ => go_simp; rfl
    | 1, _ => go_simp; rfl
    | 2, _ => go_simp; rfl
    | 3, _ => go_simp; rfl
  · intro k hk
    match k, hk with
    | 0, _ => go_simp; rfl
    | 1, _ => go_simp; rfl
    | 2, _ => go_simp; rfl
    | 3, _ => go_simp; rfl

theorem Row.slice {w : World} {v : Value} {ids : List Id} (h : Row w v ids) : ∃ a n c, v = .slice a n c := by
  rcases h with ⟨h, _⟩ | ⟨g, cap, h, _⟩
  · exact ⟨_, _, _, h⟩
  · exact ⟨_, _, _, h⟩

set_option maxRecDepth 100000 in
set_option maxHeartbeats 1600000 in
theorem topB_any (start key next : Id) (d : Bool) (w : World) (hg : Glob0 w) (ws : start.wf) (wk : key.wf) (wn : next.wf) :
    Calls Tryd.prog 5 #[idV start, idV key, idV next, .bool d] w fun e w' => TopPost w e w' := by
  have HX := hide (And.intro ws (And.intro wk wn))
  have HG := hide hg
  clear ws wk wn hg
  go_enter Tryd.func5, Tryd.ntmps5
  go_upto_region 2 with fail
  obtain ⟨w3, hw3, b1, b2, b3, b4, hs3, hb3⟩ := boxes4 w start key next
  rw [← hw3]
  have B1 := hide b1
  have B2 := hide b2
  have B3 := hide b3
  have B4 := hide b4
  have HB3 := hide hb3
  clear hw3 b1 b2 b3 b4 hb3
  go_cut [10] from 15 (fun s wx => ∃ bw F, s = .pointer (some ⟨bw, 0, none⟩) ∧ Hid (Walk wx F bw key [start] [] false false) ∧ Hid (Below w3.heap.size w3 wx) ∧ Hid (∀ k, k < w3.heap.size → ¬ F k))
  case first =>
    have MK := hide (show ∀ W, Below w3.heap.size w3 W → (Below w3.heap.size w3 W ∧ (W.cell? ⟨w.heap.size, 0, none⟩ = some (.int .u64 start.a) ∧ W.cell? ⟨w.heap.size, 1, none⟩ = some (.int .u64 start.b) ∧ W.cell? ⟨w.heap.size, 2, none⟩ = some (.int .u64 start.c) ∧ W.cell? ⟨w.heap.size, 3, none⟩ = some (.int .u64 start.d)) ∧ (W.cell? ⟨w.heap.size + 1, 0, none⟩ = some (.int .u64 key.a) ∧ W.cell? ⟨w.heap.size + 1, 1, none⟩ = some (.int .u64 key.b) ∧ W.cell? ⟨w.heap.size + 1, 2, none⟩ = some (.int .u64 key.c) ∧ W.cell? ⟨w.heap.size + 1, 3, none⟩ = some (.int .u64 key.d))) from fun W hW => ⟨hW, (B1.out.later hW (by omega)).cells0, (B2.out.later hW (by omega)).cells0⟩)
    refine wp_region_held_drew (S := fun W => Below w3.heap.size w3 W ∧ (W.cell? ⟨w.heap.size, 0, none⟩ = some (.int .u64 start.a) ∧ W.cell? ⟨w.heap.size, 1, none⟩ = some (.int .u64 start.b) ∧ W.cell? ⟨w.heap.size, 2, none⟩ = some (.int .u64 start.c) ∧ W.cell? ⟨w.heap.size, 3, none⟩ = some (.int .u64 start.d)) ∧ (W.cell? ⟨w.heap.size + 1, 0, none⟩ = some (.int .u64 key.a) ∧ W.cell? ⟨w.heap.size + 1, 1, none⟩ = some (.int .u64 key.b) ∧ W.cell? ⟨w.heap.size + 1, 2, none⟩ = some (.int .u64 key.c) ∧ W.cell? ⟨w.heap.size + 1, 3, none⟩ = some (.int .u64 key.d))) (by kernel_rfl) ?_ (fun hHeld => ?_)
    · exact MK.out _ (below_drew _)
    refine wpAnyH_take (i := 0) (v := (idV start)) rfl (by kernel_rfl) (by kernel_rfl) (by kernel_rfl) (fun _ _ _ h => h) (Or.inl ⟨by rfl, ?_⟩) hHeld ?_
    · intro w hSw; try dsimp only at hSw
      go_simp
    try simp only [Act.put, List.getElem_toArray, List.getElem_cons_zero, List.getElem_cons_succ, List.setIfInBounds_toArray, List.set_cons_zero, List.set_cons_succ]
    refine wpAnyH_take (i := 2) (v := (idV key)) rfl (by kernel_rfl) (by kernel_rfl) (by kernel_rfl) (fun _ _ _ h => h) (Or.inl ⟨by rfl, ?_⟩) hHeld ?_
    · intro w hSw; try dsimp only at hSw
      go_simp
    try simp only [Act.put, List.getElem_toArray, List.getElem_cons_zero, List.getElem_cons_succ, List.setIfInBounds_toArray, List.set_cons_zero, List.set_cons_succ]
    refine wpAnyH_ready (rs := [1]) (by kernel_rfl) (by simp) ?_
    refine AllReadyH.cons rfl (fun K hK => ?_) AllReadyH.nil
    go_simp
    refine (newID_any start _).mono ?_
    rintro e w4 ⟨rfl, hb4⟩
    refine hK.out _ _ ?_ (fun hHeld => ?_)
    · exact MK.out _ ((below_drew w3).trans hb4)
    clear hK K
    try simp only [Act.put, List.getElem_toArray, List.getElem_cons_zero, List.getElem_cons_succ, List.setIfInBounds_toArray, List.set_cons_zero, List.set_cons_succ]
    refine wpAnyH_ready (rs := [3]) (by kernel_rfl) (by simp) ?_
    refine AllReadyH.cons rfl (fun K hK => ?_) AllReadyH.nil
    go_simp
    refine (newID_any key _).mono ?_
    rintro e w5 ⟨rfl, hb5⟩
    refine hK.out _ _ ?_ (fun hHeld => ?_)
    · exact MK.out _ (((below_drew w3).trans hb4).trans (hb5.mono ((below_drew w3).trans hb4).size))
    clear hK K
    try simp only [Act.put, List.getElem_toArray, List.getElem_cons_zero, List.getElem_cons_succ, List.setIfInBounds_toArray, List.set_cons_zero, List.set_cons_succ]
    have h5 : Below w3.heap.size w3 w5 := ((below_drew w3).trans hb4).trans (hb5.mono ((below_drew w3).trans hb4).size)
    refine wpAnyH_ready (rs := [4]) (by kernel_rfl) (by simp) ?_
    refine AllReadyH.cons rfl (fun K hK => ?_) AllReadyH.nil
    go_simp
    refine (beginAt_any start key _).mono ?_
    rintro e w6 ⟨bw, F, rfl, hw6, hb6, hF6⟩
    refine hK.out _ _ ?_ (fun hHeld => ?_)
    · exact MK.out _ (h5.trans (hb6.mono h5.size))
    clear hK K
    try simp only [Act.put, List.getElem_toArray, List.getElem_cons_zero, List.getElem_cons_succ, List.setIfInBounds_toArray, List.set_cons_zero, List.set_cons_succ]
    refine wpAnyH_take (i := 5) (v := (.pointer (some ⟨bw, 0, none⟩))) rfl (by kernel_rfl) (by kernel_rfl) (by kernel_rfl) (fun _ _ _ h => h) (Or.inl ⟨by rfl, ?_⟩) hHeld ?_
    · intro w hSw; try dsimp only at hSw
      go_simp
    try simp only [Act.put, List.getElem_toArray, List.getElem_cons_zero, List.getElem_cons_succ, List.setIfInBounds_toArray, List.set_cons_zero, List.set_cons_succ]
    refine wpAnyH_done (by kernel_rfl) ?_ _
    go_wp2_with fail
    go_meet
    exact ⟨bw, F, rfl, hide hw6, hide (h5.trans (hb6.mono h5.size)), hide (fun k hk => hF6 k (Nat.lt_of_lt_of_le hk h5.size))⟩
  case rest =>
  obtain ⟨bw, F, rfl, hw4, hb4, hF4⟩ := hcut
  rename World => w4
  have G4 := hide (show Glob w4 F from by
    obtain ⟨g1, ⟨v0, e0, c0⟩, v1, e1, c1⟩ := HG.out
    have hb := HB3.out.trans (hb4.out.mono HB3.out.size)
    exact ⟨hF4.out 0 (by omega), hF4.out 1 (by omega), Nat.lt_of_lt_of_le g1 hb.size, ⟨v0, e0, (hb.cell (p := ⟨0, 0, none⟩) (by simp; omega)).trans c0⟩, v1, e1, (hb.cell (p := ⟨1, 0, none⟩) (by simp; omega)).trans c1⟩)
  go_wp2_with fail
  refine (result_open F bw key [start] [] false w4 hw4.out).mono ?_
  rintro e w5 ⟨vp, rfl, hr5, hb5⟩
  obtain ⟨va, vn, vc, rfl⟩ := hr5.slice
  have R5 := hide hr5
  have hb35 := hide (hb4.out.trans (hb5.mono hb4.out.size))
  have W5 := hide (hw4.out.below hb5)
  have G5 := hide (G4.out.step (Step.of_below F hb5))
  clear hw4 G4 hb4 hr5
  go_upto_region 4 with fail
  obtain ⟨w6, hw6⟩ : ∃ z, z = w5.alloc (.cells #[.slice va vn vc, .int .u64 0, .int .u64 0, .int .u64 0, .int .u64 0, .int .i64 0] 43) := ⟨_, rfl⟩
  rw [← hw6]
  have b5 : Below w5.heap.size w5 w6 := by rw [hw6]; exact (Below.refl _ _).alloc (Nat.le_refl _) _
  have X6 := hide (show (w6.cell? ⟨w5.heap.size, 0, none⟩ = some (.slice va vn vc) ∧ w6.cell? ⟨w5.heap.size, 1, none⟩ = some (.int .u64 0) ∧ w6.cell? ⟨w5.heap.size, 2, none⟩ = some (.int .u64 0) ∧ w6.cell? ⟨w5.heap.size, 3, none⟩ = some (.int .u64 0) ∧ w6.cell? ⟨w5.heap.size, 4, none⟩ = some (.int .u64 0) ∧ w6.cell? ⟨w5.heap.size, 5, none⟩ = some (.int .i64 0)) by rw [hw6]; exact ⟨by go_simp, by go_simp, by go_simp, by go_simp, by go_simp, by go_simp⟩)
  have hs6 : w5.heap.size < w6.heap.size := by rw [hw6]; simp
  have hb36 := hide (hb35.out.trans (b5.mono hb35.out.size))
  have W6 := hide (W5.out.below b5)
  have R6 := hide (R5.out.below b5)
  have G6 := hide (G5.out.step (Step.of_below F b5))
  clear hw6 b5 hb35 W5 G5 hb5 R5
  go_cut [39] from 22 (fun s wx => s = .bool false ∧ Hid (Below w6.heap.size w6 wx))
  case first =>
    have t : same4 0 0 0 0 0 0 0 0 = true := by rfl
    have MK := hide (show ∀ W, Below w6.heap.size w6 W → (Below w6.heap.size w6 W ∧ (W.cell? ⟨w.heap.size, 0, none⟩ = some (.int .u64 start.a) ∧ W.cell? ⟨w.heap.size, 1, none⟩ = some (.int .u64 start.b) ∧ W.cell? ⟨w.heap.size, 2, none⟩ = some (.int .u64 start.c) ∧ W.cell? ⟨w.heap.size, 3, none⟩ = some (.int .u64 start.d)) ∧ (W.cell? ⟨w.heap.size + 1 + 1 + 1, 0, none⟩ = some (.int .u64 0) ∧ W.cell? ⟨w.heap.size + 1 + 1 + 1, 1, none⟩ = some (.int .u64 0) ∧ W.cell? ⟨w.heap.size + 1 + 1 + 1, 2, none⟩ = some (.int .u64 0) ∧ W.cell? ⟨w.heap.size + 1 + 1 + 1, 3, none⟩ = some (.int .u64 0)) ∧ (W.cell? ⟨w5.heap.size, 0, none⟩ = some (.slice va vn vc) ∧ W.cell? ⟨w5.heap.size, 1, none⟩ = some (.int .u64 0) ∧ W.cell? ⟨w5.heap.size, 2, none⟩ = some (.int .u64 0) ∧ W.cell? ⟨w5.heap.size, 3, none⟩ = some (.int .u64 0) ∧ W.cell? ⟨w5.heap.size, 4, none⟩ = some (.int .u64 0) ∧ W.cell? ⟨w5.heap.size, 5, none⟩ = some (.int .i64 0))) from fun W hW => ⟨hW, (B1.out.later (hb36.out.trans (hW.mono hb36.out.size)) (by omega)).cells0, (B4.out.later (hb36.out.trans (hW.mono hb36.out.size)) (by omega)).cells0, (by obtain ⟨h0, h1, h2, h3, h4, h5⟩ := X6.out; exact ⟨(hW.cell (p := ⟨w5.heap.size, 0, none⟩) (by simp; omega)).trans h0, (hW.cell (p := ⟨w5.heap.size, 1, none⟩) (by simp; omega)).trans h1, (hW.cell (p := ⟨w5.heap.size, 2, none⟩) (by simp; omega)).trans h2, (hW.cell (p := ⟨w5.heap.size, 3, none⟩) (by simp; omega)).trans h3, (hW.cell (p := ⟨w5.heap.size, 4, none⟩) (by simp; omega)).trans h4, (hW.cell (p := ⟨w5.heap.size, 5, none⟩) (by simp; omega)).trans h5⟩)⟩)
    refine wp_region_held_drew (S := fun W => Below w6.heap.size w6 W ∧ (W.cell? ⟨w.heap.size, 0, none⟩ = some (.int .u64 start.a) ∧ W.cell? ⟨w.heap.size, 1, none⟩ = some (.int .u64 start.b) ∧ W.cell? ⟨w.heap.size, 2, none⟩ = some (.int .u64 start.c) ∧ W.cell? ⟨w.heap.size, 3, none⟩ = some (.int .u64 start.d)) ∧ (W.cell? ⟨w.heap.size + 1 + 1 + 1, 0, none⟩ = some (.int .u64 0) ∧ W.cell? ⟨w.heap.size + 1 + 1 + 1, 1, none⟩ = some (.int .u64 0) ∧ W.cell? ⟨w.heap.size + 1 + 1 + 1, 2, none⟩ = some (.int .u64 0) ∧ W.cell? ⟨w.heap.size + 1 + 1 + 1, 3, none⟩ = some (.int .u64 0)) ∧ (W.cell? ⟨w5.heap.size, 0, none⟩ = some (.slice va vn vc) ∧ W.cell? ⟨w5.heap.size, 1, none⟩ = some (.int .u64 0) ∧ W.cell? ⟨w5.heap.size, 2, none⟩ = some (.int .u64 0) ∧ W.cell? ⟨w5.heap.size, 3, none⟩ = some (.int .u64 0) ∧ W.cell? ⟨w5.heap.size, 4, none⟩ = some (.int .u64 0) ∧ W.cell? ⟨w5.heap.size, 5, none⟩ = some (.int .i64 0))) (by kernel_rfl) ?_ (fun hHeld => ?_)
    · exact MK.out _ (below_drew _)
    refine wpAnyH_take (i := 0) (v := (.pointer (some ⟨w5.heap.size, 0, none⟩))) rfl (by kernel_rfl) (by kernel_rfl) (by kernel_rfl) (fun _ _ _ h => h) (Or.inl ⟨by rfl, ?_⟩) hHeld ?_
    · intro w hSw; try dsimp only at hSw
      go_simp
    try simp only [Act.put, List.getElem_toArray, List.getElem_cons_zero, List.getElem_cons_succ, List.setIfInBounds_toArray, List.set_cons_zero, List.set_cons_succ]
    refine wpAnyH_take (i := 1) (v := (.slice va vn vc)) rfl (by kernel_rfl) (by kernel_rfl) (by kernel_rfl) (fun _ _ _ h => h) (Or.inl ⟨by rfl, ?_⟩) hHeld ?_
    · intro w hSw; try dsimp only at hSw
      go_simp
    try simp only [Act.put, List.getElem_toArray, List.getElem_cons_zero, List.getElem_cons_succ, List.setIfInBounds_toArray, List.set_cons_zero, List.set_cons_succ]
    refine wpAnyH_take (i := 2) (v := (idV start)) rfl (by kernel_rfl) (by kernel_rfl) (by kernel_rfl) (fun _ _ _ h => h) (Or.inl ⟨by rfl, ?_⟩) hHeld ?_
    · intro w hSw; try dsimp only at hSw
      go_simp
    try simp only [Act.put, List.getElem_toArray, List.getElem_cons_zero, List.getElem_cons_succ, List.setIfInBounds_toArray, List.set_cons_zero, List.set_cons_succ]
    refine wpAnyH_ready (rs := [3]) (by kernel_rfl) (by simp) ?_
    refine AllReadyH.cons rfl (fun K hK => ?_) AllReadyH.nil
    go_simp
    refine hK.out _ _ ?_ (fun hHeld => ?_)
    · exact MK.out _ ((below_drew w6).alloc (below_drew w6).size _)
    clear hK K
    try simp only [Act.put, List.getElem_toArray, List.getElem_cons_zero, List.getElem_cons_succ, List.setIfInBounds_toArray, List.set_cons_zero, List.set_cons_succ]
    have bm := (below_drew w6).alloc (below_drew w6).size (box start 23)
    refine wpAnyH_ready (rs := [4]) (by kernel_rfl) (by simp) ?_
    refine AllReadyH.cons rfl (fun K hK => ?_) AllReadyH.nil
    go_simp
    refine (pathIs_yes _ _ [start] _ (by simp) (R6.out.below bm).ids (ids_one _ _ _ start (by simp) (by have := idAt_new w6.drew start 23; simpa using this))).mono ?_
    rintro e w7 ⟨rfl, hb7⟩
    refine hK.out _ _ ?_ (fun hHeld => ?_)
    · exact MK.out _ (bm.trans (hb7.mono bm.size))
    clear hK K
    try simp only [Act.put, List.getElem_toArray, List.getElem_cons_zero, List.getElem_cons_succ, List.setIfInBounds_toArray, List.set_cons_zero, List.set_cons_succ]
    have b7 := bm.trans (hb7.mono bm.size)
    refine wpAnyH_take (i := 5) (v := (.bool false)) rfl (by kernel_rfl) (by kernel_rfl) (by kernel_rfl) (fun _ _ _ h => h) (Or.inl ⟨by rfl, ?_⟩) hHeld ?_
    · intro w hSw; try dsimp only at hSw
      go_simp
    try simp only [Act.put, List.getElem_toArray, List.getElem_cons_zero, List.getElem_cons_succ, List.setIfInBounds_toArray, List.set_cons_zero, List.set_cons_succ]
    refine wpAnyH_take (i := 6) (v := (.bool false)) rfl (by kernel_rfl) (by kernel_rfl) (by kernel_rfl) (fun _ _ _ h => h) (Or.inl ⟨by rfl, ?_⟩) hHeld ?_
    · intro w hSw; try dsimp only at hSw
      go_simp
    try simp only [Act.put, List.getElem_toArray, List.getElem_cons_zero, List.getElem_cons_succ, List.setIfInBounds_toArray, List.set_cons_zero, List.set_cons_succ]
    refine wpAnyH_take (i := 7) (v := (.pointer (some ⟨w5.heap.size, 1, none⟩))) rfl (by kernel_rfl) (by kernel_rfl) (by kernel_rfl) (fun _ _ _ h => h) (Or.inl ⟨by rfl, ?_⟩) hHeld ?_
    · intro w hSw; try dsimp only at hSw
      go_simp
    try simp only [Act.put, List.getElem_toArray, List.getElem_cons_zero, List.getElem_cons_succ, List.setIfInBounds_toArray, List.set_cons_zero, List.set_cons_succ]
    refine wpAnyH_take (i := 8) (v := (.agg #[.int .u64 0, .int .u64 0, .int .u64 0, .int .u64 0])) rfl (by kernel_rfl) (by kernel_rfl) (by kernel_rfl) (fun _ _ _ h => h) (Or.inl ⟨by rfl, ?_⟩) hHeld ?_
    · intro w hSw; try dsimp only at hSw
      go_simp
    try simp only [Act.put, List.getElem_toArray, List.getElem_cons_zero, List.getElem_cons_succ, List.setIfInBounds_toArray, List.set_cons_zero, List.set_cons_succ]
    refine wpAnyH_take (i := 10) (v := (.agg #[.int .u64 0, .int .u64 0, .int .u64 0, .int .u64 0])) rfl (by kernel_rfl) (by kernel_rfl) (by kernel_rfl) (fun _ _ _ h => h) (Or.inl ⟨by rfl, ?_⟩) hHeld ?_
    · intro w hSw; try dsimp only at hSw
      go_simp
    try simp only [Act.put, List.getElem_toArray, List.getElem_cons_zero, List.getElem_cons_succ, List.setIfInBounds_toArray, List.set_cons_zero, List.set_cons_succ]
    refine wpAnyH_ready (rs := [9]) (by kernel_rfl) (by simp) ?_
    refine AllReadyH.cons rfl (fun K hK => ?_) AllReadyH.nil
    go_simp
    refine (words_zero _).mono ?_
    rintro e w8 ⟨rfl, hb8⟩
    refine hK.out _ _ ?_ (fun hHeld => ?_)
    · exact MK.out _ (b7.trans (hb8.mono b7.size))
    clear hK K
    try simp only [Act.put, List.getElem_toArray, List.getElem_cons_zero, List.getElem_cons_succ, List.setIfInBounds_toArray, List.set_cons_zero, List.set_cons_succ]
    refine wpAnyH_take (i := 11) (v := (.bool false)) rfl (by kernel_rfl) (by kernel_rfl) (by kernel_rfl) (fun _ _ _ h => h) (Or.inl ⟨by rfl, ?_⟩) hHeld ?_
    · intro w hSw; try dsimp only at hSw
      go_simp
    try simp only [Act.put, List.getElem_toArray, List.getElem_cons_zero, List.getElem_cons_succ, List.setIfInBounds_toArray, List.set_cons_zero, List.set_cons_succ]
    refine wpAnyH_take (i := 12) (v := (.bool false)) rfl (by kernel_rfl) (by kernel_rfl) (by kernel_rfl) (fun _ _ _ h => h) (Or.inl ⟨by rfl, ?_⟩) hHeld ?_
    · intro w hSw; try dsimp only at hSw
      go_simp
    try simp only [Act.put, List.getElem_toArray, List.getElem_cons_zero, List.getElem_cons_succ, List.setIfInBounds_toArray, List.set_cons_zero, List.set_cons_succ]
    refine wpAnyH_take (i := 13) (v := (.bool false)) rfl (by kernel_rfl) (by kernel_rfl) (by kernel_rfl) (fun _ _ _ h => h) (Or.inl ⟨by rfl, ?_⟩) hHeld ?_
    · intro w hSw; try dsimp only at hSw
      go_simp
    try simp only [Act.put, List.getElem_toArray, List.getElem_cons_zero, List.getElem_cons_succ, List.setIfInBounds_toArray, List.set_cons_zero, List.set_cons_succ]
    refine wpAnyH_take (i := 14) (v := (.pointer (some ⟨w5.heap.size, 5, none⟩))) rfl (by kernel_rfl) (by kernel_rfl) (by kernel_rfl) (fun _ _ _ h => h) (Or.inl ⟨by rfl, ?_⟩) hHeld ?_
    · intro w hSw; try dsimp only at hSw
      go_simp
    try simp only [Act.put, List.getElem_toArray, List.getElem_cons_zero, List.getElem_cons_succ, List.setIfInBounds_toArray, List.set_cons_zero, List.set_cons_succ]
    refine wpAnyH_take (i := 15) (v := (.int .i64 0)) rfl (by kernel_rfl) (by kernel_rfl) (by kernel_rfl) (fun _ _ _ h => h) (Or.inl ⟨by rfl, ?_⟩) hHeld ?_
    · intro w hSw; try dsimp only at hSw
      go_simp
    try simp only [Act.put, List.getElem_toArray, List.getElem_cons_zero, List.getElem_cons_succ, List.setIfInBounds_toArray, List.set_cons_zero, List.set_cons_succ]
    refine wpAnyH_take (i := 16) (v := (.bool false)) rfl (by kernel_rfl) (by kernel_rfl) (by kernel_rfl) (fun _ _ _ h => h) (Or.inl ⟨by rfl, ?_⟩) hHeld ?_
    · intro w hSw; try dsimp only at hSw
      go_simp
    try simp only [Act.put, List.getElem_toArray, List.getElem_cons_zero, List.getElem_cons_succ, List.setIfInBounds_toArray, List.set_cons_zero, List.set_cons_succ]
    refine wpAnyH_take (i := 17) (v := (.bool false)) rfl (by kernel_rfl) (by kernel_rfl) (by kernel_rfl) (fun _ _ _ h => h) (Or.inl ⟨by rfl, ?_⟩) hHeld ?_
    · intro w hSw; try dsimp only at hSw
      go_simp
    try simp only [Act.put, List.getElem_toArray, List.getElem_cons_zero, List.getElem_cons_succ, List.setIfInBounds_toArray, List.set_cons_zero, List.set_cons_succ]
    refine wpAnyH_done (by kernel_rfl) ?_ _
    go_wp2_with fail
    go_meet
    exact ⟨rfl, hide (b7.trans (hb8.mono b7.size))⟩
  case rest =>
  obtain ⟨rfl, hb7⟩ := hcut
  rename World => w7
  have W7 := hide (W6.out.below hb7.out)
  have G7 := hide (G6.out.step (Step.of_below F hb7.out))
  have hb37 := hide (hb36.out.trans (hb7.out.mono hb36.out.size))
  obtain ⟨n0, n1, n2, n3⟩ := (B3.out.later hb37.out (by omega)).cells0
  clear W6 G6 hb36 hb7 X6 hs6 R6
  go_wp2_with fail
  refine (newID_any next w7).mono ?_
  rintro e w8 ⟨rfl, hb8⟩
  have hb38 := hide (hb37.out.trans (hb8.mono hb37.out.size))
  have W8 := hide (W7.out.below hb8)
  have G8 := hide (G7.out.step (Step.of_below F hb8))
  clear n0 n1 n2 n3 hb8 W7 G7 hb37
  go_wp2_with fail
  have hF8 : ∀ k, k < w3.heap.size → ¬ F k := hF4.out
  refine (answer_any F bw key [] [] start next d w8 W8.out G8.out (by simp) (by simp) HX.out.2.1 HX.out.1 HX.out.2.2).mono ?_
  rintro e w9 ⟨v, F9, rfl, he, hh, hs⟩
  have hb39 := hide (hb38.out.trans (hs.below hb38.out.size hF8))
  have H9 := hide hh
  clear hs hF8 W8 G8 hb38 he hh
  go_wp2_with fail
  refine (result_one F9 bw start key next d w9 H9.out).mono ?_
  rintro e w10 ⟨vq, rfl, hr10, hb10⟩
  obtain ⟨qa, qn, qc, rfl⟩ := hr10.slice
  have R10 := hide hr10
  have hb310 := hide (hb39.out.trans (hb10.mono hb39.out.size))
  clear H9 hr10 hb39 hb10
  obtain ⟨n0, n1, n2, n3⟩ := (B3.out.later hb310.out (by omega)).cells0
  obtain ⟨s0, s1, s2, s3⟩ := (B1.out.later hb310.out (by omega)).cells0
  obtain ⟨k0, k1, k2, k3⟩ := (B2.out.later hb310.out (by omega)).cells0
  have z0 : w.heap.size < w10.heap.size := by have := hb310.out.size; omega
  have z1 : w.heap.size + 1 < w10.heap.size := by have := hb310.out.size; omega
  have z2 : w.heap.size + 1 + 1 < w10.heap.size := by have := hb310.out.size; omega
  cases d
  · by_cases e : next = start
    · have t : same4 next.a next.b next.c next.d start.a start.b start.c start.d = true := by rw [same4_ids]; simpa using e
      have HE := hide e
      clear e
      go_upto_region 18 with fail
      have eP : wantP start key next false = [] := by simp [wantP, HE.out]
      obtain ⟨w18, hw18⟩ : ∃ z, z = ((w10.alloc (.cells #[.slice qa qn qc, .int .u64 (wantO next false).a, .int .u64 (wantO next false).b, .int .u64 (wantO next false).c, .int .u64 (wantO next false).d, .int .i64 0] 43)).alloc (.cells #[.int .u64 0, .int .u64 0, .int .u64 0, .int .u64 0] 23)).alloc (.cells #[] 23) := ⟨_, rfl⟩
      rw [← hw18]
      have e11 : (w10.alloc (.cells #[.slice qa qn qc, .int .u64 (wantO next false).a, .int .u64 (wantO next false).b, .int .u64 (wantO next false).c, .int .u64 (wantO next false).d, .int .i64 0] 43)).heap.size = w10.heap.size + 1 := by simp
      have e12 : ((w10.alloc (.cells #[.slice qa qn qc, .int .u64 (wantO next false).a, .int .u64 (wantO next false).b, .int .u64 (wantO next false).c, .int .u64 (wantO next false).d, .int .i64 0] 43)).alloc (.cells #[.int .u64 0, .int .u64 0, .int .u64 0, .int .u64 0] 23)).heap.size = w10.heap.size + 1 + 1 := by simp
      have hs18 : w18.heap.size = w10.heap.size + 1 + 1 + 1 := by rw [hw18]; simp
      have b18 : Below w10.heap.size w10 w18 := by rw [hw18]; exact (((Below.refl _ _).alloc (Nat.le_refl _) _).alloc (by omega) _).alloc (by omega) _
      have X18 := hide (show (w18.cell? ⟨w10.heap.size, 0, none⟩ = some (.slice qa qn qc) ∧ w18.cell? ⟨w10.heap.size, 1, none⟩ = some (.int .u64 (wantO next false).a) ∧ w18.cell? ⟨w10.heap.size, 2, none⟩ = some (.int .u64 (wantO next false).b) ∧ w18.cell? ⟨w10.heap.size, 3, none⟩ = some (.int .u64 (wantO next false).c) ∧ w18.cell? ⟨w10.heap.size, 4, none⟩ = some (.int .u64 (wantO next false).d) ∧ w18.cell? ⟨w10.heap.size, 5, none⟩ = some (.int .i64 0)) by rw [hw18]; exact ⟨by go_simp, by go_simp, by go_simp, by go_simp, by go_simp, by go_simp⟩)
      have Y18 := hide (show IdAt w18 (w10.heap.size + 1) 0 (wantO next false) by rw [hw18]; have h := (idAt_new (w10.alloc (.cells #[.slice qa qn qc, .int .u64 (wantO next false).a, .int .u64 (wantO next false).b, .int .u64 (wantO next false).c, .int .u64 (wantO next false).d, .int .i64 0] 43)) (wantO next false) 23).alloc (by simp) (.cells #[] 23); rwa [e11] at h)
      have J18 := hide (show Ids w18 w18.heap.size (.slice (some ⟨w10.heap.size + 1 + 1, 0, none⟩) 0 0) (wantP start key next false) by rw [eP, hs18, hw18]; exact ⟨_, _, rfl, fun k x hk => by simp at hk⟩)
      have R18 := hide (R10.out.below b18)
      have HBW := hide (HB3.out.trans ((hb310.out.trans (b18.mono hb310.out.size)).mono HB3.out.size))
      have hsz : w10.heap.size + 1 < w18.heap.size := by omega
      clear hw18 e11 e12 n0 n1 n2 n3 s0 s1 s2 s3 k0 k1 k2 k3 z0 z1 z2 b18 R10 hb310
      have t9 : same4 (wantO next false).a (wantO next false).b (wantO next false).c (wantO next false).d (wantO next false).a (wantO next false).b (wantO next false).c (wantO next false).d = true := by rw [same4_ids]; simp
      have MK := hide (show ∀ W, Below w18.heap.size w18 W → (Below w18.heap.size w18 W ∧ (W.cell? ⟨w10.heap.size, 0, none⟩ = some (.slice qa qn qc) ∧ W.cell? ⟨w10.heap.size, 1, none⟩ = some (.int .u64 (wantO next false).a) ∧ W.cell? ⟨w10.heap.size, 2, none⟩ = some (.int .u64 (wantO next false).b) ∧ W.cell? ⟨w10.heap.size, 3, none⟩ = some (.int .u64 (wantO next false).c) ∧ W.cell? ⟨w10.heap.size, 4, none⟩ = some (.int .u64 (wantO next false).d) ∧ W.cell? ⟨w10.heap.size, 5, none⟩ = some (.int .i64 0)) ∧ (W.cell? ⟨w10.heap.size + 1, 0, none⟩ = some (.int .u64 (wantO next false).a) ∧ W.cell? ⟨w10.heap.size + 1, 1, none⟩ = some (.int .u64 (wantO next false).b) ∧ W.cell? ⟨w10.heap.size + 1, 2, none⟩ = some (.int .u64 (wantO next false).c) ∧ W.cell? ⟨w10.heap.size + 1, 3, none⟩ = some (.int .u64 (wantO next false).d))) from fun W hW => ⟨hW, (by obtain ⟨h0, h1, h2, h3, h4, h5⟩ := X18.out; exact ⟨(hW.cell (p := ⟨w10.heap.size, 0, none⟩) (by simp; omega)).trans h0, (hW.cell (p := ⟨w10.heap.size, 1, none⟩) (by simp; omega)).trans h1, (hW.cell (p := ⟨w10.heap.size, 2, none⟩) (by simp; omega)).trans h2, (hW.cell (p := ⟨w10.heap.size, 3, none⟩) (by simp; omega)).trans h3, (hW.cell (p := ⟨w10.heap.size, 4, none⟩) (by simp; omega)).trans h4, (hW.cell (p := ⟨w10.heap.size, 5, none⟩) (by simp; omega)).trans h5⟩), (Y18.out.later hW (by omega)).cells0⟩)
      refine wp_region_held_drew (S := fun W => Below w18.heap.size w18 W ∧ (W.cell? ⟨w10.heap.size, 0, none⟩ = some (.slice qa qn qc) ∧ W.cell? ⟨w10.heap.size, 1, none⟩ = some (.int .u64 (wantO next false).a) ∧ W.cell? ⟨w10.heap.size, 2, none⟩ = some (.int .u64 (wantO next false).b) ∧ W.cell? ⟨w10.heap.size, 3, none⟩ = some (.int .u64 (wantO next false).c) ∧ W.cell? ⟨w10.heap.size, 4, none⟩ = some (.int .u64 (wantO next false).d) ∧ W.cell? ⟨w10.heap.size, 5, none⟩ = some (.int .i64 0)) ∧ (W.cell? ⟨w10.heap.size + 1, 0, none⟩ = some (.int .u64 (wantO next false).a) ∧ W.cell? ⟨w10.heap.size + 1, 1, none⟩ = some (.int .u64 (wantO next false).b) ∧ W.cell? ⟨w10.heap.size + 1, 2, none⟩ = some (.int .u64 (wantO next false).c) ∧ W.cell? ⟨w10.heap.size + 1, 3, none⟩ = some (.int .u64 (wantO next false).d))) (by kernel_rfl) ?_ (fun hHeld => ?_)
      · exact MK.out _ (below_drew _)
      refine wpAnyH_take (i := 0) (v := (.pointer (some ⟨w10.heap.size, 0, none⟩))) rfl (by kernel_rfl) (by kernel_rfl) (by kernel_rfl) (fun _ _ _ h => h) (Or.inl ⟨by rfl, ?_⟩) hHeld ?_
      · intro w hSw; try dsimp only at hSw
        go_simp
      try simp only [Act.put, List.getElem_toArray, List.getElem_cons_zero, List.getElem_cons_succ, List.setIfInBounds_toArray, List.set_cons_zero, List.set_cons_succ]
      refine wpAnyH_take (i := 1) (v := (.slice qa qn qc)) rfl (by kernel_rfl) (by kernel_rfl) (by kernel_rfl) (fun _ _ _ h => h) (Or.inl ⟨by rfl, ?_⟩) hHeld ?_
      · intro w hSw; try dsimp only at hSw
        go_simp
      try simp only [Act.put, List.getElem_toArray, List.getElem_cons_zero, List.getElem_cons_succ, List.setIfInBounds_toArray, List.set_cons_zero, List.set_cons_succ]
      refine wpAnyH_take (i := 2) (v := (.slice (some ⟨w10.heap.size + 1 + 1, 0, none⟩) 0 0)) rfl (by kernel_rfl) (by kernel_rfl) (by kernel_rfl) (fun _ _ _ h => h) (Or.inl ⟨by rfl, ?_⟩) hHeld ?_
      · intro w hSw; try dsimp only at hSw
        go_simp
      try simp only [Act.put, List.getElem_toArray, List.getElem_cons_zero, List.getElem_cons_succ, List.setIfInBounds_toArray, List.set_cons_zero, List.set_cons_succ]
      refine wpAnyH_ready (rs := [3]) (by kernel_rfl) (by simp) ?_
      refine AllReadyH.cons rfl (fun K hK => ?_) AllReadyH.nil
      go_simp
      refine (pathIs_yes _ _ (wantP start key next false) _ (by rw [eP]; simp) (R18.out.below (below_drew _)).ids (J18.out.later (below_drew _) (Nat.le_refl _))).mono ?_
      rintro e w20 ⟨rfl, hb20⟩
      refine hK.out _ _ ?_ (fun hHeld => ?_)
      · exact MK.out _ ((below_drew w18).trans hb20)
      clear hK K
      try simp only [Act.put, List.getElem_toArray, List.getElem_cons_zero, List.getElem_cons_succ, List.setIfInBounds_toArray, List.set_cons_zero, List.set_cons_succ]
      have b20 := (below_drew w18).trans hb20
      refine wpAnyH_take (i := 4) (v := (.bool true)) rfl (by kernel_rfl) (by kernel_rfl) (by kernel_rfl) (fun _ _ _ h => h) (Or.inl ⟨by rfl, ?_⟩) hHeld ?_
      · intro w hSw; try dsimp only at hSw
        go_simp
      try simp only [Act.put, List.getElem_toArray, List.getElem_cons_zero, List.getElem_cons_succ, List.setIfInBounds_toArray, List.set_cons_zero, List.set_cons_succ]
      refine wpAnyH_take (i := 5) (v := (.pointer (some ⟨w10.heap.size, 1, none⟩))) rfl (by kernel_rfl) (by kernel_rfl) (by kernel_rfl) (fun _ _ _ h => h) (Or.inl ⟨by rfl, ?_⟩) hHeld ?_
      · intro w hSw; try dsimp only at hSw
        go_simp
      try simp only [Act.put, List.getElem_toArray, List.getElem_cons_zero, List.getElem_cons_succ, List.setIfInBounds_toArray, List.set_cons_zero, List.set_cons_succ]
      refine wpAnyH_take (i := 6) (v := (idV (wantO next false))) rfl (by kernel_rfl) (by kernel_rfl) (by kernel_rfl) (fun _ _ _ h => h) (Or.inl ⟨by rfl, ?_⟩) hHeld ?_
      · intro w hSw; try dsimp only at hSw
        go_simp
      try simp only [Act.put, List.getElem_toArray, List.getElem_cons_zero, List.getElem_cons_succ, List.setIfInBounds_toArray, List.set_cons_zero, List.set_cons_succ]
      refine wpAnyH_take (i := 8) (v := (idV (wantO next false))) rfl (by kernel_rfl) (by kernel_rfl) (by kernel_rfl) (fun _ _ _ h => h) (Or.inl ⟨by rfl, ?_⟩) hHeld ?_
      · intro w hSw; try dsimp only at hSw
        go_simp
      try simp only [Act.put, List.getElem_toArray, List.getElem_cons_zero, List.getElem_cons_succ, List.setIfInBounds_toArray, List.set_cons_zero, List.set_cons_succ]
      refine wpAnyH_ready (rs := [7]) (by kernel_rfl) (by simp) ?_
      refine AllReadyH.cons rfl (fun K hK => ?_) AllReadyH.nil
      go_simp
      refine (words_any (wantO next false) _).mono ?_
      rintro e w21 ⟨rfl, hb21⟩
      refine hK.out _ _ ?_ (fun hHeld => ?_)
      · exact MK.out _ (b20.trans (hb21.mono b20.size))
      clear hK K
      try simp only [Act.put, List.getElem_toArray, List.getElem_cons_zero, List.getElem_cons_succ, List.setIfInBounds_toArray, List.set_cons_zero, List.set_cons_succ]
      refine wpAnyH_take (i := 9) (v := (.bool true)) rfl (by kernel_rfl) (by kernel_rfl) (by kernel_rfl) (fun _ _ _ h => h) (Or.inl ⟨by rfl, ?_⟩) hHeld ?_
      · intro w hSw; try dsimp only at hSw
        go_simp
      try simp only [Act.put, List.getElem_toArray, List.getElem_cons_zero, List.getElem_cons_succ, List.setIfInBounds_toArray, List.set_cons_zero, List.set_cons_succ]
      refine wpAnyH_take (i := 10) (v := (.bool true)) rfl (by kernel_rfl) (by kernel_rfl) (by kernel_rfl) (fun _ _ _ h => h) (Or.inl ⟨by rfl, ?_⟩) hHeld ?_
      · intro w hSw; try dsimp only at hSw
        go_simp
      try simp only [Act.put, List.getElem_toArray, List.getElem_cons_zero, List.getElem_cons_succ, List.setIfInBounds_toArray, List.set_cons_zero, List.set_cons_succ]
      refine wpAnyH_take (i := 11) (v := (.bool true)) rfl (by kernel_rfl) (by kernel_rfl) (by kernel_rfl) (fun _ _ _ h => h) (Or.inl ⟨by rfl, ?_⟩) hHeld ?_
      · intro w hSw; try dsimp only at hSw
        go_simp
      try simp only [Act.put, List.getElem_toArray, List.getElem_cons_zero, List.getElem_cons_succ, List.setIfInBounds_toArray, List.set_cons_zero, List.set_cons_succ]
      refine wpAnyH_take (i := 12) (v := (.pointer (some ⟨w10.heap.size, 5, none⟩))) rfl (by kernel_rfl) (by kernel_rfl) (by kernel_rfl) (fun _ _ _ h => h) (Or.inl ⟨by rfl, ?_⟩) hHeld ?_
      · intro w hSw; try dsimp only at hSw
        go_simp
      try simp only [Act.put, List.getElem_toArray, List.getElem_cons_zero, List.getElem_cons_succ, List.setIfInBounds_toArray, List.set_cons_zero, List.set_cons_succ]
      refine wpAnyH_take (i := 13) (v := (.int .i64 0)) rfl (by kernel_rfl) (by kernel_rfl) (by kernel_rfl) (fun _ _ _ h => h) (Or.inl ⟨by rfl, ?_⟩) hHeld ?_
      · intro w hSw; try dsimp only at hSw
        go_simp
      try simp only [Act.put, List.getElem_toArray, List.getElem_cons_zero, List.getElem_cons_succ, List.setIfInBounds_toArray, List.set_cons_zero, List.set_cons_succ]
      refine wpAnyH_take (i := 14) (v := (.bool true)) rfl (by kernel_rfl) (by kernel_rfl) (by kernel_rfl) (fun _ _ _ h => h) (Or.inl ⟨by rfl, ?_⟩) hHeld ?_
      · intro w hSw; try dsimp only at hSw
        go_simp
      try simp only [Act.put, List.getElem_toArray, List.getElem_cons_zero, List.getElem_cons_succ, List.setIfInBounds_toArray, List.set_cons_zero, List.set_cons_succ]
      refine wpAnyH_take (i := 15) (v := (.bool true)) rfl (by kernel_rfl) (by kernel_rfl) (by kernel_rfl) (fun _ _ _ h => h) (Or.inl ⟨by rfl, ?_⟩) hHeld ?_
      · intro w hSw; try dsimp only at hSw
        go_simp
      try simp only [Act.put, List.getElem_toArray, List.getElem_cons_zero, List.getElem_cons_succ, List.setIfInBounds_toArray, List.set_cons_zero, List.set_cons_succ]
      refine wpAnyH_take (i := 16) (v := (.bool true)) rfl (by kernel_rfl) (by kernel_rfl) (by kernel_rfl) (fun _ _ _ h => h) (Or.inl ⟨by rfl, ?_⟩) hHeld ?_
      · intro w hSw; try dsimp only at hSw
        go_simp
      try simp only [Act.put, List.getElem_toArray, List.getElem_cons_zero, List.getElem_cons_succ, List.setIfInBounds_toArray, List.set_cons_zero, List.set_cons_succ]
      refine wpAnyH_done (by kernel_rfl) ?_ _
      go_wp2
      go_ret
      exact ⟨rfl, HBW.out.trans ((b20.trans (hb21.mono b20.size)).mono HBW.out.size)⟩
    · have t : same4 next.a next.b next.c next.d start.a start.b start.c start.d = false := by rw [same4_ids]; simpa using e
      have HE := hide e
      clear e
      go_wp2_with fail
      obtain ⟨w11, hw11⟩ : ∃ z, z = (w10.alloc (.cells #[.slice qa qn qc, .int .u64 (wantO next false).a, .int .u64 (wantO next false).b, .int .u64 (wantO next false).c, .int .u64 (wantO next false).d, .int .i64 0] 43)).alloc (.cells #[.int .u64 0, .int .u64 0, .int .u64 0, .int .u64 0] 23) := ⟨_, rfl⟩
      rw [← hw11]
      have e11 : (w10.alloc (.cells #[.slice qa qn qc, .int .u64 (wantO next false).a, .int .u64 (wantO next false).b, .int .u64 (wantO next false).c, .int .u64 (wantO next false).d, .int .i64 0] 43)).heap.size = w10.heap.size + 1 := by simp
      have hs11 : w11.heap.size = w10.heap.size + 1 + 1 := by rw [hw11]; simp
      have b11 : Below w10.heap.size w10 w11 := by rw [hw11]; exact ((Below.refl _ _).alloc (Nat.le_refl _) _).alloc (by omega) _
      have X11 := hide (show (w11.cell? ⟨w10.heap.size, 0, none⟩ = some (.slice qa qn qc) ∧ w11.cell? ⟨w10.heap.size, 1, none⟩ = some (.int .u64 (wantO next false).a) ∧ w11.cell? ⟨w10.heap.size, 2, none⟩ = some (.int .u64 (wantO next false).b) ∧ w11.cell? ⟨w10.heap.size, 3, none⟩ = some (.int .u64 (wantO next false).c) ∧ w11.cell? ⟨w10.heap.size, 4, none⟩ = some (.int .u64 (wantO next false).d) ∧ w11.cell? ⟨w10.heap.size, 5, none⟩ = some (.int .i64 0)) by rw [hw11]; exact ⟨by go_simp, by go_simp, by go_simp, by go_simp, by go_simp, by go_simp⟩)
      have Y11 := hide (show IdAt w11 (w10.heap.size + 1) 0 (wantO next false) by rw [hw11]; have h := idAt_new (w10.alloc (.cells #[.slice qa qn qc, .int .u64 (wantO next false).a, .int .u64 (wantO next false).b, .int .u64 (wantO next false).c, .int .u64 (wantO next false).d, .int .i64 0] 43)) (wantO next false) 23; rwa [e11] at h)
      have R11 := hide (R10.out.below b11)
      have hb311 := hide (hb310.out.trans (b11.mono hb310.out.size))
      clear hw11 e11 b11 R10 hb310
      refine (zzInOpen_any next start key _ HX.out.2.2 HX.out.1 HX.out.2.1).mono ?_
      rintro e w12 ⟨rfl, hb12⟩
      have hb312 := hide (hb311.out.trans (hb12.mono hb311.out.size))
      have hs12 := hb12.size
      have X12 := hide (show (w12.cell? ⟨w10.heap.size, 0, none⟩ = some (.slice qa qn qc) ∧ w12.cell? ⟨w10.heap.size, 1, none⟩ = some (.int .u64 (wantO next false).a) ∧ w12.cell? ⟨w10.heap.size, 2, none⟩ = some (.int .u64 (wantO next false).b) ∧ w12.cell? ⟨w10.heap.size, 3, none⟩ = some (.int .u64 (wantO next false).c) ∧ w12.cell? ⟨w10.heap.size, 4, none⟩ = some (.int .u64 (wantO next false).d) ∧ w12.cell? ⟨w10.heap.size, 5, none⟩ = some (.int .i64 0)) by obtain ⟨h0, h1, h2, h3, h4, h5⟩ := X11.out; exact ⟨(hb12.cell (p := ⟨w10.heap.size, 0, none⟩) (by simp; omega)).trans h0, (hb12.cell (p := ⟨w10.heap.size, 1, none⟩) (by simp; omega)).trans h1, (hb12.cell (p := ⟨w10.heap.size, 2, none⟩) (by simp; omega)).trans h2, (hb12.cell (p := ⟨w10.heap.size, 3, none⟩) (by simp; omega)).trans h3, (hb12.cell (p := ⟨w10.heap.size, 4, none⟩) (by simp; omega)).trans h4, (hb12.cell (p := ⟨w10.heap.size, 5, none⟩) (by simp; omega)).trans h5⟩)
      have Y12 := hide (Y11.out.later hb12 (by omega))
      have R12 := hide (R11.out.below hb12)
      clear n0 n1 n2 n3 s0 s1 s2 s3 k0 k1 k2 k3 z0 z1 z2 X11 Y11 R11 hb12 hb311
      obtain ⟨n0, n1, n2, n3⟩ := (B3.out.later hb312.out (by omega)).cells0
      obtain ⟨s0, s1, s2, s3⟩ := (B1.out.later hb312.out (by omega)).cells0
      have z0 : w.heap.size < w12.heap.size := by have := hb312.out.size; omega
      have z2 : w.heap.size + 1 + 1 < w12.heap.size := by have := hb312.out.size; omega
      by_cases hio : InOpen next start key
      · rw [decide_eq_true hio]
        have eP : wantP start key next false = [start, next] := by simp [wantP, HE.out, hio]
        clear hio
        go_upto_region 18 with fail
        obtain ⟨w18, hw18⟩ : ∃ z, z = w12.alloc (.cells #[.int .u64 start.a, .int .u64 start.b, .int .u64 start.c, .int .u64 start.d, .int .u64 next.a, .int .u64 next.b, .int .u64 next.c, .int .u64 next.d] 23) := ⟨_, rfl⟩
        rw [← hw18]
        have hs18 : w18.heap.size = w12.heap.size + 1 := by rw [hw18]; simp
        have b18 : Below w12.heap.size w12 w18 := by rw [hw18]; exact (Below.refl _ _).alloc (Nat.le_refl _) _
        have X18 := hide (show (w18.cell? ⟨w10.heap.size, 0, none⟩ = some (.slice qa qn qc) ∧ w18.cell? ⟨w10.heap.size, 1, none⟩ = some (.int .u64 (wantO next false).a) ∧ w18.cell? ⟨w10.heap.size, 2, none⟩ = some (.int .u64 (wantO next false).b) ∧ w18.cell? ⟨w10.heap.size, 3, none⟩ = some (.int .u64 (wantO next false).c) ∧ w18.cell? ⟨w10.heap.size, 4, none⟩ = some (.int .u64 (wantO next false).d) ∧ w18.cell? ⟨w10.heap.size, 5, none⟩ = some (.int .i64 0)) by obtain ⟨h0, h1, h2, h3, h4, h5⟩ := X12.out; exact ⟨(b18.cell (p := ⟨w10.heap.size, 0, none⟩) (by simp; omega)).trans h0, (b18.cell (p := ⟨w10.heap.size, 1, none⟩) (by simp; omega)).trans h1, (b18.cell (p := ⟨w10.heap.size, 2, none⟩) (by simp; omega)).trans h2, (b18.cell (p := ⟨w10.heap.size, 3, none⟩) (by simp; omega)).trans h3, (b18.cell (p := ⟨w10.heap.size, 4, none⟩) (by simp; omega)).trans h4, (b18.cell (p := ⟨w10.heap.size, 5, none⟩) (by simp; omega)).trans h5⟩)
        have Y18 := hide (Y12.out.later b18 (by omega))
        have J18 := hide (show Ids w18 w18.heap.size (.slice (some ⟨w12.heap.size, 0, none⟩) 2 2) (wantP start key next false) by rw [eP, hs18, hw18]; exact idAt_two w12 start next 23)
        have R18 := hide (R12.out.below b18)
        have HBW := hide (HB3.out.trans ((hb312.out.trans (b18.mono hb312.out.size)).mono HB3.out.size))
        have hsz : w10.heap.size + 1 < w18.heap.size := by omega
        clear hw18 n0 n1 n2 n3 s0 s1 s2 s3 z0 z2 b18 R12 X12 Y12 hb312
        have t9 : same4 (wantO next false).a (wantO next false).b (wantO next false).c (wantO next false).d (wantO next false).a (wantO next false).b (wantO next false).c (wantO next false).d = true := by rw [same4_ids]; simp
        have MK := hide (show ∀ W, Below w18.heap.size w18 W → (Below w18.heap.size w18 W ∧ (W.cell? ⟨w10.heap.size, 0, none⟩ = some (.slice qa qn qc) ∧ W.cell? ⟨w10.heap.size, 1, none⟩ = some (.int .u64 (wantO next false).a) ∧ W.cell? ⟨w10.heap.size, 2, none⟩ = some (.int .u64 (wantO next false).b) ∧ W.cell? ⟨w10.heap.size, 3, none⟩ = some (.int .u64 (wantO next false).c) ∧ W.cell? ⟨w10.heap.size, 4, none⟩ = some (.int .u64 (wantO next false).d) ∧ W.cell? ⟨w10.heap.size, 5, none⟩ = some (.int .i64 0)) ∧ (W.cell? ⟨w10.heap.size + 1, 0, none⟩ = some (.int .u64 (wantO next false).a) ∧ W.cell? ⟨w10.heap.size + 1, 1, none⟩ = some (.int .u64 (wantO next false).b) ∧ W.cell? ⟨w10.heap.size + 1, 2, none⟩ = some (.int .u64 (wantO next false).c) ∧ W.cell? ⟨w10.heap.size + 1, 3, none⟩ = some (.int .u64 (wantO next false).d))) from fun W hW => ⟨hW, (by obtain ⟨h0, h1, h2, h3, h4, h5⟩ := X18.out; exact ⟨(hW.cell (p := ⟨w10.heap.size, 0, none⟩) (by simp; omega)).trans h0, (hW.cell (p := ⟨w10.heap.size, 1, none⟩) (by simp; omega)).trans h1, (hW.cell (p := ⟨w10.heap.size, 2, none⟩) (by simp; omega)).trans h2, (hW.cell (p := ⟨w10.heap.size, 3, none⟩) (by simp; omega)).trans h3, (hW.cell (p := ⟨w10.heap.size, 4, none⟩) (by simp; omega)).trans h4, (hW.cell (p := ⟨w10.heap.size, 5, none⟩) (by simp; omega)).trans h5⟩), (Y18.out.later hW (by omega)).cells0⟩)
        refine wp_region_held_drew (S := fun W => Below w18.heap.size w18 W ∧ (W.cell? ⟨w10.heap.size, 0, none⟩ = some (.slice qa qn qc) ∧ W.cell? ⟨w10.heap.size, 1, none⟩ = some (.int .u64 (wantO next false).a) ∧ W.cell? ⟨w10.heap.size, 2, none⟩ = some (.int .u64 (wantO next false).b) ∧ W.cell? ⟨w10.heap.size, 3, none⟩ = some (.int .u64 (wantO next false).c) ∧ W.cell? ⟨w10.heap.size, 4, none⟩ = some (.int .u64 (wantO next false).d) ∧ W.cell? ⟨w10.heap.size, 5, none⟩ = some (.int .i64 0)) ∧ (W.cell? ⟨w10.heap.size + 1, 0, none⟩ = some (.int .u64 (wantO next false).a) ∧ W.cell? ⟨w10.heap.size + 1, 1, none⟩ = some (.int .u64 (wantO next false).b) ∧ W.cell? ⟨w10.heap.size + 1, 2, none⟩ = some (.int .u64 (wantO next false).c) ∧ W.cell? ⟨w10.heap.size + 1, 3, none⟩ = some (.int .u64 (wantO next false).d))) (by kernel_rfl) ?_ (fun hHeld => ?_)
        · exact MK.out _ (below_drew _)
        refine wpAnyH_take (i := 0) (v := (.pointer (some ⟨w10.heap.size, 0, none⟩))) rfl (by kernel_rfl) (by kernel_rfl) (by kernel_rfl) (fun _ _ _ h => h) (Or.inl ⟨by rfl, ?_⟩) hHeld ?_
        · intro w hSw; try dsimp only at hSw
          go_simp
        try simp only [Act.put, List.getElem_toArray, List.getElem_cons_zero, List.getElem_cons_succ, List.setIfInBounds_toArray, List.set_cons_zero, List.set_cons_succ]
        refine wpAnyH_take (i := 1) (v := (.slice qa qn qc)) rfl (by kernel_rfl) (by kernel_rfl) (by kernel_rfl) (fun _ _ _ h => h) (Or.inl ⟨by rfl, ?_⟩) hHeld ?_
        · intro w hSw; try dsimp only at hSw
          go_simp
        try simp only [Act.put, List.getElem_toArray, List.getElem_cons_zero, List.getElem_cons_succ, List.setIfInBounds_toArray, List.set_cons_zero, List.set_cons_succ]
        refine wpAnyH_take (i := 2) (v := (.slice (some ⟨w12.heap.size, 0, none⟩) 2 2)) rfl (by kernel_rfl) (by kernel_rfl) (by kernel_rfl) (fun _ _ _ h => h) (Or.inl ⟨by rfl, ?_⟩) hHeld ?_
        · intro w hSw; try dsimp only at hSw
          go_simp
        try simp only [Act.put, List.getElem_toArray, List.getElem_cons_zero, List.getElem_cons_succ, List.setIfInBounds_toArray, List.set_cons_zero, List.set_cons_succ]
        refine wpAnyH_ready (rs := [3]) (by kernel_rfl) (by simp) ?_
        refine AllReadyH.cons rfl (fun K hK => ?_) AllReadyH.nil
        go_simp
        refine (pathIs_yes _ _ (wantP start key next false) _ (by rw [eP]; simp) (R18.out.below (below_drew _)).ids (J18.out.later (below_drew _) (Nat.le_refl _))).mono ?_
        rintro e w20 ⟨rfl, hb20⟩
        refine hK.out _ _ ?_ (fun hHeld => ?_)
        · exact MK.out _ ((below_drew w18).trans hb20)
        clear hK K
        try simp only [Act.put, List.getElem_toArray, List.getElem_cons_zero, List.getElem_cons_succ, List.setIfInBounds_toArray, List.set_cons_zero, List.set_cons_succ]
        have b20 := (below_drew w18).trans hb20
        refine wpAnyH_take (i := 4) (v := (.bool true)) rfl (by kernel_rfl) (by kernel_rfl) (by kernel_rfl) (fun _ _ _ h => h) (Or.inl ⟨by rfl, ?_⟩) hHeld ?_
        · intro w hSw; try dsimp only at hSw
          go_simp
        try simp only [Act.put, List.getElem_toArray, List.getElem_cons_zero, List.getElem_cons_succ, List.setIfInBounds_toArray, List.set_cons_zero, List.set_cons_succ]
        refine wpAnyH_take (i := 5) (v := (.pointer (some ⟨w10.heap.size, 1, none⟩))) rfl (by kernel_rfl) (by kernel_rfl) (by kernel_rfl) (fun _ _ _ h => h) (Or.inl ⟨by rfl, ?_⟩) hHeld ?_
        · intro w hSw; try dsimp only at hSw
          go_simp
        try simp only [Act.put, List.getElem_toArray, List.getElem_cons_zero, List.getElem_cons_succ, List.setIfInBounds_toArray, List.set_cons_zero, List.set_cons_succ]
        refine wpAnyH_take (i := 6) (v := (idV (wantO next false))) rfl (by kernel_rfl) (by kernel_rfl) (by kernel_rfl) (fun _ _ _ h => h) (Or.inl ⟨by rfl, ?_⟩) hHeld ?_
        · intro w hSw; try dsimp only at hSw
          go_simp
        try simp only [Act.put, List.getElem_toArray, List.getElem_cons_zero, List.getElem_cons_succ, List.setIfInBounds_toArray, List.set_cons_zero, List.set_cons_succ]
        refine wpAnyH_take (i := 8) (v := (idV (wantO next false))) rfl (by kernel_rfl) (by kernel_rfl) (by kernel_rfl) (fun _ _ _ h => h) (Or.inl ⟨by rfl, ?_⟩) hHeld ?_
        · intro w hSw; try dsimp only at hSw
          go_simp
        try simp only [Act.put, List.getElem_toArray, List.getElem_cons_zero, List.getElem_cons_succ, List.setIfInBounds_toArray, List.set_cons_zero, List.set_cons_succ]
        refine wpAnyH_ready (rs := [7]) (by kernel_rfl) (by simp) ?_
        refine AllReadyH.cons rfl (fun K hK => ?_) AllReadyH.nil
        go_simp
        refine (words_any (wantO next false) _).mono ?_
        rintro e w21 ⟨rfl, hb21⟩
        refine hK.out _ _ ?_ (fun hHeld => ?_)
        · exact MK.out _ (b20.trans (hb21.mono b20.size))
        clear hK K
        try simp only [Act.put, List.getElem_toArray, List.getElem_cons_zero, List.getElem_cons_succ, List.setIfInBounds_toArray, List.set_cons_zero, List.set_cons_succ]
        refine wpAnyH_take (i := 9) (v := (.bool true)) rfl (by kernel_rfl) (by kernel_rfl) (by kernel_rfl) (fun _ _ _ h => h) (Or.inl ⟨by rfl, ?_⟩) hHeld ?_
        · intro w hSw; try dsimp only at hSw
          go_simp
        try simp only [Act.put, List.getElem_toArray, List.getElem_cons_zero, List.getElem_cons_succ, List.setIfInBounds_toArray, List.set_cons_zero, List.set_cons_succ]
        refine wpAnyH_take (i := 10) (v := (.bool true)) rfl (by kernel_rfl) (by kernel_rfl) (by kernel_rfl) (fun _ _ _ h => h) (Or.inl ⟨by rfl, ?_⟩) hHeld ?_
        · intro w hSw; try dsimp only at hSw
          go_simp
        try simp only [Act.put, List.getElem_toArray, List.getElem_cons_zero, List.getElem_cons_succ, List.setIfInBounds_toArray, List.set_cons_zero, List.set_cons_succ]
        refine wpAnyH_take (i := 11) (v := (.bool true)) rfl (by kernel_rfl) (by kernel_rfl) (by kernel_rfl) (fun _ _ _ h => h) (Or.inl ⟨by rfl, ?_⟩) hHeld ?_
        · intro w hSw; try dsimp only at hSw
          go_simp
        try simp only [Act.put, List.getElem_toArray, List.getElem_cons_zero, List.getElem_cons_succ, List.setIfInBounds_toArray, List.set_cons_zero, List.set_cons_succ]
        refine wpAnyH_take (i := 12) (v := (.pointer (some ⟨w10.heap.size, 5, none⟩))) rfl (by kernel_rfl) (by kernel_rfl) (by kernel_rfl) (fun _ _ _ h => h) (Or.inl ⟨by rfl, ?_⟩) hHeld ?_
        · intro w hSw; try dsimp only at hSw
          go_simp
        try simp only [Act.put, List.getElem_toArray, List.getElem_cons_zero, List.getElem_cons_succ, List.setIfInBounds_toArray, List.set_cons_zero, List.set_cons_succ]
        refine wpAnyH_take (i := 13) (v := (.int .i64 0)) rfl (by kernel_rfl) (by kernel_rfl) (by kernel_rfl) (fun _ _ _ h => h) (Or.inl ⟨by rfl, ?_⟩) hHeld ?_
        · intro w hSw; try dsimp only at hSw
          go_simp
        try simp only [Act.put, List.getElem_toArray, List.getElem_cons_zero, List.getElem_cons_succ, List.setIfInBounds_toArray, List.set_cons_zero, List.set_cons_succ]
        refine wpAnyH_take (i := 14) (v := (.bool true)) rfl (by kernel_rfl) (by kernel_rfl) (by kernel_rfl) (fun _ _ _ h => h) (Or.inl ⟨by rfl, ?_⟩) hHeld ?_
        · intro w hSw; try dsimp only at hSw
          go_simp
        try simp only [Act.put, List.getElem_toArray, List.getElem_cons_zero, List.getElem_cons_succ, List.setIfInBounds_toArray, List.set_cons_zero, List.set_cons_succ]
        refine wpAnyH_take (i := 15) (v := (.bool true)) rfl (by kernel_rfl) (by kernel_rfl) (by kernel_rfl) (fun _ _ _ h => h) (Or.inl ⟨by rfl, ?_⟩) hHeld ?_
        · intro w hSw; try dsimp only at hSw
          go_simp
        try simp only [Act.put, List.getElem_toArray, List.getElem_cons_zero, List.getElem_cons_succ, List.setIfInBounds_toArray, List.set_cons_zero, List.set_cons_succ]
        refine wpAnyH_take (i := 16) (v := (.bool true)) rfl (by kernel_rfl) (by kernel_rfl) (by kernel_rfl) (fun _ _ _ h => h) (Or.inl ⟨by rfl, ?_⟩) hHeld ?_
        · intro w hSw; try dsimp only at hSw
          go_simp
        try simp only [Act.put, List.getElem_toArray, List.getElem_cons_zero, List.getElem_cons_succ, List.setIfInBounds_toArray, List.set_cons_zero, List.set_cons_succ]
        refine wpAnyH_done (by kernel_rfl) ?_ _
        go_wp2
        go_ret
        exact ⟨rfl, HBW.out.trans ((b20.trans (hb21.mono b20.size)).mono HBW.out.size)⟩
      · rw [decide_eq_false hio]
        have eP : wantP start key next false = [start] := by simp [wantP, HE.out, hio]
        clear hio
        go_upto_region 18 with fail
        obtain ⟨w18, hw18⟩ : ∃ z, z = w12.alloc (box start 23) := ⟨_, rfl⟩
        rw [← hw18]
        have hs18 : w18.heap.size = w12.heap.size + 1 := by rw [hw18]; simp
        have b18 : Below w12.heap.size w12 w18 := by rw [hw18]; exact (Below.refl _ _).alloc (Nat.le_refl _) _
        have X18 := hide (show (w18.cell? ⟨w10.heap.size, 0, none⟩ = some (.slice qa qn qc) ∧ w18.cell? ⟨w10.heap.size, 1, none⟩ = some (.int .u64 (wantO next false).a) ∧ w18.cell? ⟨w10.heap.size, 2, none⟩ = some (.int .u64 (wantO next false).b) ∧ w18.cell? ⟨w10.heap.size, 3, none⟩ = some (.int .u64 (wantO next false).c) ∧ w18.cell? ⟨w10.heap.size, 4, none⟩ = some (.int .u64 (wantO next false).d) ∧ w18.cell? ⟨w10.heap.size, 5, none⟩ = some (.int .i64 0)) by obtain ⟨h0, h1, h2, h3, h4, h5⟩ := X12.out; exact ⟨(b18.cell (p := ⟨w10.heap.size, 0, none⟩) (by simp; omega)).trans h0, (b18.cell (p := ⟨w10.heap.size, 1, none⟩) (by simp; omega)).trans h1, (b18.cell (p := ⟨w10.heap.size, 2, none⟩) (by simp; omega)).trans h2, (b18.cell (p := ⟨w10.heap.size, 3, none⟩) (by simp; omega)).trans h3, (b18.cell (p := ⟨w10.heap.size, 4, none⟩) (by simp; omega)).trans h4, (b18.cell (p := ⟨w10.heap.size, 5, none⟩) (by simp; omega)).trans h5⟩)
        have Y18 := hide (Y12.out.later b18 (by omega))
        have J18 := hide (show Ids w18 w18.heap.size (.slice (some ⟨w12.heap.size, 0, none⟩) 1 1) (wantP start key next false) by rw [eP, hs18, hw18]; have h := ids_one (w12.alloc (box start 23)) w12.heap.size 1 start (by simp) (idAt_new w12 start 23); simpa using h)
        have R18 := hide (R12.out.below b18)
        have HBW := hide (HB3.out.trans ((hb312.out.trans (b18.mono hb312.out.size)).mono HB3.out.size))
        have hsz : w10.heap.size + 1 < w18.heap.size := by omega
        clear hw18 n0 n1 n2 n3 s0 s1 s2 s3 z0 z2 b18 R12 X12 Y12 hb312
        have t9 : same4 (wantO next false).a (wantO next false).b (wantO next false).c (wantO next false).d (wantO next false).a (wantO next false).b (wantO next false).c (wantO next false).d = true := by rw [same4_ids]; simp
        have MK := hide (show ∀ W, Below w18.heap.size w18 W → (Below w18.heap.size w18 W ∧ (W.cell? ⟨w10.heap.size, 0, none⟩ = some (.slice qa qn qc) ∧ W.cell? ⟨w10.heap.size, 1, none⟩ = some (.int .u64 (wantO next false).a) ∧ W.cell? ⟨w10.heap.size, 2, none⟩ = some (.int .u64 (wantO next false).b) ∧ W.cell? ⟨w10.heap.size, 3, none⟩ = some (.int .u64 (wantO next false).c) ∧ W.cell? ⟨w10.heap.size, 4, none⟩ = some (.int .u64 (wantO next false).d) ∧ W.cell? ⟨w10.heap.size, 5, none⟩ = some (.int .i64 0)) ∧ (W.cell? ⟨w10.heap.size + 1, 0, none⟩ = some (.int .u64 (wantO next false).a) ∧ W.cell? ⟨w10.heap.size + 1, 1, none⟩ = some (.int .u64 (wantO next false).b) ∧ W.cell? ⟨w10.heap.size + 1, 2, none⟩ = some (.int .u64 (wantO next false).c) ∧ W.cell? ⟨w10.heap.size + 1, 3, none⟩ = some (.int .u64 (wantO next false).d))) from fun W hW => ⟨hW, (by obtain ⟨h0, h1, h2, h3, h4, h5⟩ := X18.out; exact ⟨(hW.cell (p := ⟨w10.heap.size, 0, none⟩) (by simp; omega)).trans h0, (hW.cell (p := ⟨w10.heap.size, 1, none⟩) (by simp; omega)).trans h1, (hW.cell (p := ⟨w10.heap.size, 2, none⟩) (by simp; omega)).trans h2, (hW.cell (p := ⟨w10.heap.size, 3, none⟩) (by simp; omega)).trans h3, (hW.cell (p := ⟨w10.heap.size, 4, none⟩) (by simp; omega)).trans h4, (hW.cell (p := ⟨w10.heap.size, 5, none⟩) (by simp; omega)).trans h5⟩), (Y18.out.later hW (by omega)).cells0⟩)
        refine wp_region_held_drew (S := fun W => Below w18.heap.size w18 W ∧ (W.cell? ⟨w10.heap.size, 0, none⟩ = some (.slice qa qn qc) ∧ W.cell? ⟨w10.heap.size, 1, none⟩ = some (.int .u64 (wantO next false).a) ∧ W.cell? ⟨w10.heap.size, 2, none⟩ = some (.int .u64 (wantO next false).b) ∧ W.cell? ⟨w10.heap.size, 3, none⟩ = some (.int .u64 (wantO next false).c) ∧ W.cell? ⟨w10.heap.size, 4, none⟩ = some (.int .u64 (wantO next false).d) ∧ W.cell? ⟨w10.heap.size, 5, none⟩ = some (.int .i64 0)) ∧ (W.cell? ⟨w10.heap.size + 1, 0, none⟩ = some (.int .u64 (wantO next false).a) ∧ W.cell? ⟨w10.heap.size + 1, 1, none⟩ = some (.int .u64 (wantO next false).b) ∧ W.cell? ⟨w10.heap.size + 1, 2, none⟩ = some (.int .u64 (wantO next false).c) ∧ W.cell? ⟨w10.heap.size + 1, 3, none⟩ = some (.int .u64 (wantO next false).d))) (by kernel_rfl) ?_ (fun hHeld => ?_)
        · exact MK.out _ (below_drew _)
        refine wpAnyH_take (i := 0) (v := (.pointer (some ⟨w10.heap.size, 0, none⟩))) rfl (by kernel_rfl) (by kernel_rfl) (by kernel_rfl) (fun _ _ _ h => h) (Or.inl ⟨by rfl, ?_⟩) hHeld ?_
        · intro w hSw; try dsimp only at hSw
          go_simp
        try simp only [Act.put, List.getElem_toArray, List.getElem_cons_zero, List.getElem_cons_succ, List.setIfInBounds_toArray, List.set_cons_zero, List.set_cons_succ]
        refine wpAnyH_take (i := 1) (v := (.slice qa qn qc)) rfl (by kernel_rfl) (by kernel_rfl) (by kernel_rfl) (fun _ _ _ h => h) (Or.inl ⟨by rfl, ?_⟩) hHeld ?_
        · intro w hSw; try dsimp only at hSw
          go_simp
        try simp only [Act.put, List.getElem_toArray, List.getElem_cons_zero, List.getElem_cons_succ, List.setIfInBounds_toArray, List.set_cons_zero, List.set_cons_succ]
        refine wpAnyH_take (i := 2) (v := (.slice (some ⟨w12.heap.size, 0, none⟩) 1 1)) rfl (by kernel_rfl) (by kernel_rfl) (by kernel_rfl) (fun _ _ _ h => h) (Or.inl ⟨by rfl, ?_⟩) hHeld ?_
        · intro w hSw; try dsimp only at hSw
          go_simp
        try simp only [Act.put, List.getElem_toArray, List.getElem_cons_zero, List.getElem_cons_succ, List.setIfInBounds_toArray, List.set_cons_zero, List.set_cons_succ]
        refine wpAnyH_ready (rs := [3]) (by kernel_rfl) (by simp) ?_
        refine AllReadyH.cons rfl (fun K hK => ?_) AllReadyH.nil
        go_simp
        refine (pathIs_yes _ _ (wantP start key next false) _ (by rw [eP]; simp) (R18.out.below (below_drew _)).ids (J18.out.later (below_drew _) (Nat.le_refl _))).mono ?_
        rintro e w20 ⟨rfl, hb20⟩
        refine hK.out _ _ ?_ (fun hHeld => ?_)
        · exact MK.out _ ((below_drew w18).trans hb20)
        clear hK K
        try simp only [Act.put, List.getElem_toArray, List.getElem_cons_zero, List.getElem_cons_succ, List.setIfInBounds_toArray, List.set_cons_zero, List.set_cons_succ]
        have b20 := (below_drew w18).trans hb20
        refine wpAnyH_take (i := 4) (v := (.bool true)) rfl (by kernel_rfl) (by kernel_rfl) (by kernel_rfl) (fun _ _ _ h => h) (Or.inl ⟨by rfl, ?_⟩) hHeld ?_
        · intro w hSw; try dsimp only at hSw
          go_simp
        try simp only [Act.put, List.getElem_toArray, List.getElem_cons_zero, List.getElem_cons_succ, List.setIfInBounds_toArray, List.set_cons_zero, List.set_cons_succ]
        refine wpAnyH_take (i := 5) (v := (.pointer (some ⟨w10.heap.size, 1, none⟩))) rfl (by kernel_rfl) (by kernel_rfl) (by kernel_rfl) (fun _ _ _ h => h) (Or.inl ⟨by rfl, ?_⟩) hHeld ?_
        · intro w hSw; try dsimp only at hSw
          go_simp
        try simp only [Act.put, List.getElem_toArray, List.getElem_cons_zero, List.getElem_cons_succ, List.setIfInBounds_toArray, List.set_cons_zero, List.set_cons_succ]
        refine wpAnyH_take (i := 6) (v := (idV (wantO next false))) rfl (by kernel_rfl) (by kernel_rfl) (by kernel_rfl) (fun _ _ _ h => h) (Or.inl ⟨by rfl, ?_⟩) hHeld ?_
        · intro w hSw; try dsimp only at hSw
          go_simp
        try simp only [Act.put, List.getElem_toArray, List.getElem_cons_zero, List.getElem_cons_succ, List.setIfInBounds_toArray, List.set_cons_zero, List.set_cons_succ]
        refine wpAnyH_take (i := 8) (v := (idV (wantO next false))) rfl (by kernel_rfl) (by kernel_rfl) (by kernel_rfl) (fun _ _ _ h => h) (Or.inl ⟨by rfl, ?_⟩) hHeld ?_
        · intro w hSw; try dsimp only at hSw
          go_simp
        try simp only [Act.put, List.getElem_toArray, List.getElem_cons_zero, List.getElem_cons_succ, List.setIfInBounds_toArray, List.set_cons_zero, List.set_cons_succ]
        refine wpAnyH_ready (rs := [7]) (by kernel_rfl) (by simp) ?_
        refine AllReadyH.cons rfl (fun K hK => ?_) AllReadyH.nil
        go_simp
        refine (words_any (wantO next false) _).mono ?_
        rintro e w21 ⟨rfl, hb21⟩
        refine hK.out _ _ ?_ (fun hHeld => ?_)
        · exact MK.out _ (b20.trans (hb21.mono b20.size))
        clear hK K
        try simp only [Act.put, List.getElem_toArray, List.getElem_cons_zero, List.getElem_cons_succ, List.setIfInBounds_toArray, List.set_cons_zero, List.set_cons_succ]
        refine wpAnyH_take (i := 9) (v := (.bool true)) rfl (by kernel_rfl) (by kernel_rfl) (by kernel_rfl) (fun _ _ _ h => h) (Or.inl ⟨by rfl, ?_⟩) hHeld ?_
        · intro w hSw; try dsimp only at hSw
          go_simp
        try simp only [Act.put, List.getElem_toArray, List.getElem_cons_zero, List.getElem_cons_succ, List.setIfInBounds_toArray, List.set_cons_zero, List.set_cons_succ]
        refine wpAnyH_take (i := 10) (v := (.bool true)) rfl (by kernel_rfl) (by kernel_rfl) (by kernel_rfl) (fun _ _ _ h => h) (Or.inl ⟨by rfl, ?_⟩) hHeld ?_
        · intro w hSw; try dsimp only at hSw
          go_simp
        try simp only [Act.put, List.getElem_toArray, List.getElem_cons_zero, List.getElem_cons_succ, List.setIfInBounds_toArray, List.set_cons_zero, List.set_cons_succ]
        refine wpAnyH_take (i := 11) (v := (.bool true)) rfl (by kernel_rfl) (by kernel_rfl) (by kernel_rfl) (fun _ _ _ h => h) (Or.inl ⟨by rfl, ?_⟩) hHeld ?_
        · intro w hSw; try dsimp only at hSw
          go_simp
        try simp only [Act.put, List.getElem_toArray, List.getElem_cons_zero, List.getElem_cons_succ, List.setIfInBounds_toArray, List.set_cons_zero, List.set_cons_succ]
        refine wpAnyH_take (i := 12) (v := (.pointer (some ⟨w10.heap.size, 5, none⟩))) rfl (by kernel_rfl) (by kernel_rfl) (by kernel_rfl) (fun _ _ _ h => h) (Or.inl ⟨by rfl, ?_⟩) hHeld ?_
        · intro w hSw; try dsimp only at hSw
          go_simp
        try simp only [Act.put, List.getElem_toArray, List.getElem_cons_zero, List.getElem_cons_succ, List.setIfInBounds_toArray, List.set_cons_zero, List.set_cons_succ]
        refine wpAnyH_take (i := 13) (v := (.int .i64 0)) rfl (by kernel_rfl) (by kernel_rfl) (by kernel_rfl) (fun _ _ _ h => h) (Or.inl ⟨by rfl, ?_⟩) hHeld ?_
        · intro w hSw; try dsimp only at hSw
          go_simp
        try simp only [Act.put, List.getElem_toArray, List.getElem_cons_zero, List.getElem_cons_succ, List.setIfInBounds_toArray, List.set_cons_zero, List.set_cons_succ]
        refine wpAnyH_take (i := 14) (v := (.bool true)) rfl (by kernel_rfl) (by kernel_rfl) (by kernel_rfl) (fun _ _ _ h => h) (Or.inl ⟨by rfl, ?_⟩) hHeld ?_
        · intro w hSw; try dsimp only at hSw
          go_simp
        try simp only [Act.put, List.getElem_toArray, List.getElem_cons_zero, List.getElem_cons_succ, List.setIfInBounds_toArray, List.set_cons_zero, List.set_cons_succ]
        refine wpAnyH_take (i := 15) (v := (.bool true)) rfl (by kernel_rfl) (by kernel_rfl) (by kernel_rfl) (fun _ _ _ h => h) (Or.inl ⟨by rfl, ?_⟩) hHeld ?_
        · intro w hSw; try dsimp only at hSw
          go_simp
        try simp only [Act.put, List.getElem_toArray, List.getElem_cons_zero, List.getElem_cons_succ, List.setIfInBounds_toArray, List.set_cons_zero, List.set_cons_succ]
        refine wpAnyH_take (i := 16) (v := (.bool true)) rfl (by kernel_rfl) (by kernel_rfl) (by kernel_rfl) (fun _ _ _ h => h) (Or.inl ⟨by rfl, ?_⟩) hHeld ?_
        · intro w hSw; try dsimp only at hSw
          go_simp
        try simp only [Act.put, List.getElem_toArray, List.getElem_cons_zero, List.getElem_cons_succ, List.setIfInBounds_toArray, List.set_cons_zero, List.set_cons_succ]
        refine wpAnyH_done (by kernel_rfl) ?_ _
        go_wp2
        go_ret
        exact ⟨rfl, HBW.out.trans ((b20.trans (hb21.mono b20.size)).mono HBW.out.size)⟩
  · go_upto_region 18 with fail
    have eP : wantP start key next true = [start, next] := by simp [wantP]
    obtain ⟨w18, hw18⟩ : ∃ z, z = ((w10.alloc (.cells #[.slice qa qn qc, .int .u64 (wantO next true).a, .int .u64 (wantO next true).b, .int .u64 (wantO next true).c, .int .u64 (wantO next true).d, .int .i64 0] 43)).alloc (box next 23)).alloc (.cells #[.int .u64 start.a, .int .u64 start.b, .int .u64 start.c, .int .u64 start.d, .int .u64 next.a, .int .u64 next.b, .int .u64 next.c, .int .u64 next.d] 23) := ⟨_, rfl⟩
    rw [← hw18]
    have e11 : (w10.alloc (.cells #[.slice qa qn qc, .int .u64 (wantO next true).a, .int .u64 (wantO next true).b, .int .u64 (wantO next true).c, .int .u64 (wantO next true).d, .int .i64 0] 43)).heap.size = w10.heap.size + 1 := by simp
    have e12 : ((w10.alloc (.cells #[.slice qa qn qc, .int .u64 (wantO next true).a, .int .u64 (wantO next true).b, .int .u64 (wantO next true).c, .int .u64 (wantO next true).d, .int .i64 0] 43)).alloc (box next 23)).heap.size = w10.heap.size + 1 + 1 := by simp
    have hs18 : w18.heap.size = w10.heap.size + 1 + 1 + 1 := by rw [hw18]; simp
    have b18 : Below w10.heap.size w10 w18 := by rw [hw18]; exact (((Below.refl _ _).alloc (Nat.le_refl _) _).alloc (by omega) _).alloc (by omega) _
    have X18 := hide (show (w18.cell? ⟨w10.heap.size, 0, none⟩ = some (.slice qa qn qc) ∧ w18.cell? ⟨w10.heap.size, 1, none⟩ = some (.int .u64 (wantO next true).a) ∧ w18.cell? ⟨w10.heap.size, 2, none⟩ = some (.int .u64 (wantO next true).b) ∧ w18.cell? ⟨w10.heap.size, 3, none⟩ = some (.int .u64 (wantO next true).c) ∧ w18.cell? ⟨w10.heap.size, 4, none⟩ = some (.int .u64 (wantO next true).d) ∧ w18.cell? ⟨w10.heap.size, 5, none⟩ = some (.int .i64 0)) by rw [hw18]; exact ⟨by go_simp, by go_simp, by go_simp, by go_simp, by go_simp, by go_simp⟩)
    have Y18 := hide (show IdAt w18 (w10.heap.size + 1) 0 (wantO next true) by rw [hw18]; have h := (idAt_new (w10.alloc (.cells #[.slice qa qn qc, .int .u64 (wantO next true).a, .int .u64 (wantO next true).b, .int .u64 (wantO next true).c, .int .u64 (wantO next true).d, .int .i64 0] 43)) (wantO next true) 23).alloc (by simp) (.cells #[.int .u64 start.a, .int .u64 start.b, .int .u64 start.c, .int .u64 start.d, .int .u64 next.a, .int .u64 next.b, .int .u64 next.c, .int .u64 next.d] 23); rwa [e11] at h)
    have J18 := hide (show Ids w18 w18.heap.size (.slice (some ⟨w10.heap.size + 1 + 1, 0, none⟩) 2 2) (wantP start key next true) by rw [eP, hs18, hw18]; have h := idAt_two ((w10.alloc (.cells #[.slice qa qn qc, .int .u64 (wantO next true).a, .int .u64 (wantO next true).b, .int .u64 (wantO next true).c, .int .u64 (wantO next true).d, .int .i64 0] 43)).alloc (box next 23)) start next 23; rwa [e12] at h)
    have R18 := hide (R10.out.below b18)
    have HBW := hide (HB3.out.trans ((hb310.out.trans (b18.mono hb310.out.size)).mono HB3.out.size))
    have hsz : w10.heap.size + 1 < w18.heap.size := by omega
    clear hw18 e11 e12 n0 n1 n2 n3 s0 s1 s2 s3 k0 k1 k2 k3 z0 z1 z2 b18 R10 hb310
    have t9 : same4 (wantO next true).a (wantO next true).b (wantO next true).c (wantO next true).d (wantO next true).a (wantO next true).b (wantO next true).c (wantO next true).d = true := by rw [same4_ids]; simp
    have MK := hide (show ∀ W, Below w18.heap.size w18 W → (Below w18.heap.size w18 W ∧ (W.cell? ⟨w10.heap.size, 0, none⟩ = some (.slice qa qn qc) ∧ W.cell? ⟨w10.heap.size, 1, none⟩ = some (.int .u64 (wantO next true).a) ∧ W.cell? ⟨w10.heap.size, 2, none⟩ = some (.int .u64 (wantO next true).b) ∧ W.cell? ⟨w10.heap.size, 3, none⟩ = some (.int .u64 (wantO next true).c) ∧ W.cell? ⟨w10.heap.size, 4, none⟩ = some (.int .u64 (wantO next true).d) ∧ W.cell? ⟨w10.heap.size, 5, none⟩ = some (.int .i64 0)) ∧ (W.cell? ⟨w10.heap.size + 1, 0, none⟩ = some (.int .u64 (wantO next true).a) ∧ W.cell? ⟨w10.heap.size + 1, 1, none⟩ = some (.int .u64 (wantO next true).b) ∧ W.cell? ⟨w10.heap.size + 1, 2, none⟩ = some (.int .u64 (wantO next true).c) ∧ W.cell? ⟨w10.heap.size + 1, 3, none⟩ = some (.int .u64 (wantO next true).d))) from fun W hW => ⟨hW, (by obtain ⟨h0, h1, h2, h3, h4, h5⟩ := X18.out; exact ⟨(hW.cell (p := ⟨w10.heap.size, 0, none⟩) (by simp; omega)).trans h0, (hW.cell (p := ⟨w10.heap.size, 1, none⟩) (by simp; omega)).trans h1, (hW.cell (p := ⟨w10.heap.size, 2, none⟩) (by simp; omega)).trans h2, (hW.cell (p := ⟨w10.heap.size, 3, none⟩) (by simp; omega)).trans h3, (hW.cell (p := ⟨w10.heap.size, 4, none⟩) (by simp; omega)).trans h4, (hW.cell (p := ⟨w10.heap.size, 5, none⟩) (by simp; omega)).trans h5⟩), (Y18.out.later hW (by omega)).cells0⟩)
    refine wp_region_held_drew (S := fun W => Below w18.heap.size w18 W ∧ (W.cell? ⟨w10.heap.size, 0, none⟩ = some (.slice qa qn qc) ∧ W.cell? ⟨w10.heap.size, 1, none⟩ = some (.int .u64 (wantO next true).a) ∧ W.cell? ⟨w10.heap.size, 2, none⟩ = some (.int .u64 (wantO next true).b) ∧ W.cell? ⟨w10.heap.size, 3, none⟩ = some (.int .u64 (wantO next true).c) ∧ W.cell? ⟨w10.heap.size, 4, none⟩ = some (.int .u64 (wantO next true).d) ∧ W.cell? ⟨w10.heap.size, 5, none⟩ = some (.int .i64 0)) ∧ (W.cell? ⟨w10.heap.size + 1, 0, none⟩ = some (.int .u64 (wantO next true).a) ∧ W.cell? ⟨w10.heap.size + 1, 1, none⟩ = some (.int .u64 (wantO next true).b) ∧ W.cell? ⟨w10.heap.size + 1, 2, none⟩ = some (.int .u64 (wantO next true).c) ∧ W.cell? ⟨w10.heap.size + 1, 3, none⟩ = some (.int .u64 (wantO next true).d))) (by kernel_rfl) ?_ (fun hHeld => ?_)
    · exact MK.out _ (below_drew _)
    refine wpAnyH_take (i := 0) (v := (.pointer (some ⟨w10.heap.size, 0, none⟩))) rfl (by kernel_rfl) (by kernel_rfl) (by kernel_rfl) (fun _ _ _ h => h) (Or.inl ⟨by rfl, ?_⟩) hHeld ?_
    · intro w hSw; try dsimp only at hSw
      go_simp
    try simp only [Act.put, List.getElem_toArray, List.getElem_cons_zero, List.getElem_cons_succ, List.setIfInBounds_toArray, List.set_cons_zero, List.set_cons_succ]
    refine wpAnyH_take (i := 1) (v := (.slice qa qn qc)) rfl (by kernel_rfl) (by kernel_rfl) (by kernel_rfl) (fun _ _ _ h => h) (Or.inl ⟨by rfl, ?_⟩) hHeld ?_
    · intro w hSw; try dsimp only at hSw
      go_simp
    try simp only [Act.put, List.getElem_toArray, List.getElem_cons_zero, List.getElem_cons_succ, List.setIfInBounds_toArray, List.set_cons_zero, List.set_cons_succ]
    refine wpAnyH_take (i := 2) (v := (.slice (some ⟨w10.heap.size + 1 + 1, 0, none⟩) 2 2)) rfl (by kernel_rfl) (by kernel_rfl) (by kernel_rfl) (fun _ _ _ h => h) (Or.inl ⟨by rfl, ?_⟩) hHeld ?_
    · intro w hSw; try dsimp only at hSw
      go_simp
    try simp only [Act.put, List.getElem_toArray, List.getElem_cons_zero, List.getElem_cons_succ, List.setIfInBounds_toArray, List.set_cons_zero, List.set_cons_succ]
    refine wpAnyH_ready (rs := [3]) (by kernel_rfl) (by simp) ?_
    refine AllReadyH.cons rfl (fun K hK => ?_) AllReadyH.nil
    go_simp
    refine (pathIs_yes _ _ (wantP start key next true) _ (by rw [eP]; simp) (R18.out.below (below_drew _)).ids (J18.out.later (below_drew _) (Nat.le_refl _))).mono ?_
    rintro e w20 ⟨rfl, hb20⟩
    refine hK.out _ _ ?_ (fun hHeld => ?_)
    · exact MK.out _ ((below_drew w18).trans hb20)
    clear hK K
    try simp only [Act.put, List.getElem_toArray, List.getElem_cons_zero, List.getElem_cons_succ, List.setIfInBounds_toArray, List.set_cons_zero, List.set_cons_succ]
    have b20 := (below_drew w18).trans hb20
    refine wpAnyH_take (i := 4) (v := (.bool true)) rfl (by kernel_rfl) (by kernel_rfl) (by kernel_rfl) (fun _ _ _ h => h) (Or.inl ⟨by rfl, ?_⟩) hHeld ?_
    · intro w hSw; try dsimp only at hSw
      go_simp
    try simp only [Act.put, List.getElem_toArray, List.getElem_cons_zero, List.getElem_cons_succ, List.setIfInBounds_toArray, List.set_cons_zero, List.set_cons_succ]
    refine wpAnyH_take (i := 5) (v := (.pointer (some ⟨w10.heap.size, 1, none⟩))) rfl (by kernel_rfl) (by kernel_rfl) (by kernel_rfl) (fun _ _ _ h => h) (Or.inl ⟨by rfl, ?_⟩) hHeld ?_
    · intro w hSw; try dsimp only at hSw
      go_simp
    try simp only [Act.put, List.getElem_toArray, List.getElem_cons_zero, List.getElem_cons_succ, List.setIfInBounds_toArray, List.set_cons_zero, List.set_cons_succ]
    refine wpAnyH_take (i := 6) (v := (idV (wantO next true))) rfl (by kernel_rfl) (by kernel_rfl) (by kernel_rfl) (fun _ _ _ h => h) (Or.inl ⟨by rfl, ?_⟩) hHeld ?_
    · intro w hSw; try dsimp only at hSw
      go_simp
    try simp only [Act.put, List.getElem_toArray, List.getElem_cons_zero, List.getElem_cons_succ, List.setIfInBounds_toArray, List.set_cons_zero, List.set_cons_succ]
    refine wpAnyH_take (i := 8) (v := (idV (wantO next true))) rfl (by kernel_rfl) (by kernel_rfl) (by kernel_rfl) (fun _ _ _ h => h) (Or.inl ⟨by rfl, ?_⟩) hHeld ?_
    · intro w hSw; try dsimp only at hSw
      go_simp
    try simp only [Act.put, List.getElem_toArray, List.getElem_cons_zero, List.getElem_cons_succ, List.setIfInBounds_toArray, List.set_cons_zero, List.set_cons_succ]
    refine wpAnyH_ready (rs := [7]) (by kernel_rfl) (by simp) ?_
    refine AllReadyH.cons rfl (fun K hK => ?_) AllReadyH.nil
    go_simp
    refine (words_any (wantO next true) _).mono ?_
    rintro e w21 ⟨rfl, hb21⟩
    refine hK.out _ _ ?_ (fun hHeld => ?_)
    · exact MK.out _ (b20.trans (hb21.mono b20.size))
    clear hK K
    try simp only [Act.put, List.getElem_toArray, List.getElem_cons_zero, List.getElem_cons_succ, List.setIfInBounds_toArray, List.set_cons_zero, List.set_cons_succ]
    refine wpAnyH_take (i := 9) (v := (.bool true)) rfl (by kernel_rfl) (by kernel_rfl) (by kernel_rfl) (fun _ _ _ h => h) (Or.inl ⟨by rfl, ?_⟩) hHeld ?_
    · intro w hSw; try dsimp only at hSw
      go_simp
    try simp only [Act.put, List.getElem_toArray, List.getElem_cons_zero, List.getElem_cons_succ, List.setIfInBounds_toArray, List.set_cons_zero, List.set_cons_succ]
    refine wpAnyH_take (i := 10) (v := (.bool true)) rfl (by kernel_rfl) (by kernel_rfl) (by kernel_rfl) (fun _ _ _ h => h) (Or.inl ⟨by rfl, ?_⟩) hHeld ?_
    · intro w hSw; try dsimp only at hSw
      go_simp
    try simp only [Act.put, List.getElem_toArray, List.getElem_cons_zero, List.getElem_cons_succ, List.setIfInBounds_toArray, List.set_cons_zero, List.set_cons_succ]
    refine wpAnyH_take (i := 11) (v := (.bool true)) rfl (by kernel_rfl) (by kernel_rfl) (by kernel_rfl) (fun _ _ _ h => h) (Or.inl ⟨by rfl, ?_⟩) hHeld ?_
    · intro w hSw; try dsimp only at hSw
      go_simp
    try simp only [Act.put, List.getElem_toArray, List.getElem_cons_zero, List.getElem_cons_succ, List.setIfInBounds_toArray, List.set_cons_zero, List.set_cons_succ]
    refine wpAnyH_take (i := 12) (v := (.pointer (some ⟨w10.heap.size, 5, none⟩))) rfl (by kernel_rfl) (by kernel_rfl) (by kernel_rfl) (fun _ _ _ h => h) (Or.inl ⟨by rfl, ?_⟩) hHeld ?_
    · intro w hSw; try dsimp only at hSw
      go_simp
    try simp only [Act.put, List.getElem_toArray, List.getElem_cons_zero, List.getElem_cons_succ, List.setIfInBounds_toArray, List.set_cons_zero, List.set_cons_succ]
    refine wpAnyH_take (i := 13) (v := (.int .i64 0)) rfl (by kernel_rfl) (by kernel_rfl) (by kernel_rfl) (fun _ _ _ h => h) (Or.inl ⟨by rfl, ?_⟩) hHeld ?_
    · intro w hSw; try dsimp only at hSw
      go_simp
    try simp only [Act.put, List.getElem_toArray, List.getElem_cons_zero, List.getElem_cons_succ, List.setIfInBounds_toArray, List.set_cons_zero, List.set_cons_succ]
    refine wpAnyH_take (i := 14) (v := (.bool true)) rfl (by kernel_rfl) (by kernel_rfl) (by kernel_rfl) (fun _ _ _ h => h) (Or.inl ⟨by rfl, ?_⟩) hHeld ?_
    · intro w hSw; try dsimp only at hSw
      go_simp
    try simp only [Act.put, List.getElem_toArray, List.getElem_cons_zero, List.getElem_cons_succ, List.setIfInBounds_toArray, List.set_cons_zero, List.set_cons_succ]
    refine wpAnyH_take (i := 15) (v := (.bool true)) rfl (by kernel_rfl) (by kernel_rfl) (by kernel_rfl) (fun _ _ _ h => h) (Or.inl ⟨by rfl, ?_⟩) hHeld ?_
    · intro w hSw; try dsimp only at hSw
      go_simp
    try simp only [Act.put, List.getElem_toArray, List.getElem_cons_zero, List.getElem_cons_succ, List.setIfInBounds_toArray, List.set_cons_zero, List.set_cons_succ]
    refine wpAnyH_take (i := 16) (v := (.bool true)) rfl (by kernel_rfl) (by kernel_rfl) (by kernel_rfl) (fun _ _ _ h => h) (Or.inl ⟨by rfl, ?_⟩) hHeld ?_
    · intro w hSw; try dsimp only at hSw
      go_simp
    try simp only [Act.put, List.getElem_toArray, List.getElem_cons_zero, List.getElem_cons_succ, List.setIfInBounds_toArray, List.set_cons_zero, List.set_cons_succ]
    refine wpAnyH_done (by kernel_rfl) ?_ _
    go_wp2
    go_ret
    exact ⟨rfl, HBW.out.trans ((b20.trans (hb21.mono b20.size)).mono HBW.out.size)⟩
end Go.Proofs.Qxb6609340aDoor
