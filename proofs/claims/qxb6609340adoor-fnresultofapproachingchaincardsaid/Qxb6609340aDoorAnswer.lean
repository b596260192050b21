import Derived.Test.Qxb6609340aDoorBackR
import Derived.Test.Qxb6609340aDoorIndex
import Derived.Test.Qxb6609340aDoorSubW
import Derived.Deep.RegionHeld3
namespace Go.Proofs.Qxb6609340aDoor
open Go.ChangeShapes Go.WideShapes Go.ChangeAt Go.RowKit
set_option linter.unusedVariables false
set_option linter.unusedSimpArgs false

/-- What the walker holds. -/
structure St where
  path : List Id
  avoid : List Id
  done : Bool
  bad : Bool

def dead (path avoid : List Id) (x : Id) : St := if avoid.length = 32 then ⟨path ++ [x], avoid, false, true⟩ else ⟨path, avoid ++ [x], false, path.isEmpty⟩
def answer (key : Id) (path avoid : List Id) (x next : Id) (d : Bool) : St :=
  if d = false ∧ next = x then dead path avoid x
  else if (d = false ∧ ¬ InOpen next x key) ∨ next ∈ avoid then ⟨path ++ [x], avoid, false, true⟩
  else ⟨(path ++ [x]) ++ [next], avoid, d, false⟩

/-- The walker holds s. -/
def Holds (w : World) (F : Nat → Prop) (bw : Nat) (key : Id) (s : St) : Prop := Walk w F bw key s.path s.avoid s.done s.bad

def StPost (w : World) (F : Nat → Prop) (bw : Nat) (key : Id) (s : St) (e : Ending) (w' : World) : Prop :=
  ∃ v F', e = .returned v ∧ ErrIs s.bad v ∧ Holds w' F' bw key s ∧ Step w w' F F'

theorem dead_any (F : Nat → Prop) (bw : Nat) (key : Id) (path avoid : List Id) (x : Id) (w : World) (h : Walk w F bw key (path ++ [x]) avoid false false) (hg : Glob w F) (hlen : path.length ≤ 1000000) (hle : avoid.length ≤ 32) :
    Calls Tryd.prog 18 #[.pointer (some ⟨bw, 0, none⟩)] w fun e w' => StPost w F bw key (dead path avoid x) e w' := by
  have C : Hid (Calls Tryd.prog 24 #[.pointer (some ⟨bw, 0, none⟩), .int .i64 1] w fun e w' => StPost w F bw key (dead path avoid x) e w') := by
    by_cases hf : avoid.length = 32
    · refine (back_full F bw key path avoid x w h hg hlen hf).mono ?_
      rintro e w' ⟨v, rfl, h1, h2, h3⟩
      have : dead path avoid x = ⟨path ++ [x], avoid, false, true⟩ := if_pos hf
      rw [this]
      exact ⟨v, F, rfl, .inr ⟨rfl, h1⟩, h2, h3⟩
    · refine (back_room F bw key path avoid x w h hg hlen (by omega)).mono ?_
      rintro e w' ⟨v, F', rfl, h1, h2, h3⟩
      have : dead path avoid x = ⟨path, avoid ++ [x], false, path.isEmpty⟩ := if_neg hf
      rw [this]
      exact ⟨v, F', rfl, h1, h2, h3⟩
  obtain ⟨h1, h2, vp, va, ev, h3, h4, h5, h6, h7, h8, h9⟩ := h
  obtain ⟨_, c4, c5, c6, c7, c8, c9, f5, f6, f7, f8, f9⟩ := h4.all
  clear h3 h4 h5 h6 h7 h8 h9 c4 c5 c6 c7 c9 f5 f6 f7 f8 f9
  go_enter Tryd.func18, Tryd.ntmps18
  go_wp2_with fail
  refine C.out.mono ?_
  rintro e w1 ⟨v, F', rfl, k1, k2⟩
  have HK := hide (And.intro k1 k2)
  clear k1 k2
  go_wp2
  go_ret
  exact ⟨v, F', rfl, HK.out⟩

set_option maxRecDepth 100000 in
set_option maxHeartbeats 3200000 in
theorem answer_any (F : Nat → Prop) (bw : Nat) (key : Id) (path avoid : List Id) (x next : Id) (d : Bool) (w : World) (h : Walk w F bw key (path ++ [x]) avoid false false) (hg : Glob w F) (hlen : path.length ≤ 900000) (hle : avoid.length ≤ 32) (wk : key.wf) (wx : x.wf) (wn : next.wf) :
    Calls Tryd.prog 11 #[.pointer (some ⟨bw, 0, none⟩), idV next, .bool d] w fun e w' => StPost w F bw key (answer key path avoid x next d) e w' := by
  have HW := hide h
  have HG := hide hg
  obtain ⟨i0, hi, hz0, hz1, hz2⟩ := info_parts Tryd.info27
  obtain ⟨h1, h2, vp, va, ev, h3, h4, h5, h6, h7, h8, h9⟩ := h
  obtain ⟨⟨r0, r1, r2, r3⟩, c4, c5, c6, c7, c8, c9, f5, f6, f7, f8, f9⟩ := h4.all
  obtain ⟨g, cap, rfl, hgl, hcap, _, hx, _⟩ := h5.last
  obtain ⟨x0, x1, x2, x3⟩ := hx.cellsAt
  have e1 : IntKind.i64.wrap (path.length : Int) = (path.length : Int) := IntWalk.i64_in _ (by omega)
  have HX := hide (And.intro wk (And.intro wx wn))
  clear wk wx wn hg
  go_enter Tryd.func11, Tryd.ntmps11
  go_wp2
  go_region
  obtain ⟨w2, hw2⟩ : ∃ z, z = ((w.alloc (box next 27)).alloc (box x 27)).drew := ⟨_, rfl⟩
  rw [← hw2]
  have hb2 : Below w.heap.size w w2 := by rw [hw2]; exact (((Below.refl _ _).alloc (Nat.le_refl _) _).alloc (by simp) _).drew
  have B1 := hide (show IdAt w2 w.heap.size 0 next by rw [hw2]; exact ((idAt_new w next 27).alloc (by simp) (box x 27)).later (below_drew _) (by simp; omega))
  have B2 := hide (show IdAt w2 (w.heap.size + 1) 0 x by rw [hw2]; have := (idAt_new (w.alloc (box next 27)) x 27).later (below_drew _) (by simp); simpa using this)
  have hs2 : w.heap.size + 1 < w2.heap.size := by rw [hw2]; simp
  have HW2 := hide (HW.out.below hb2)
  have HG2 := hide (HG.out.step (Step.of_below F hb2))
  have S2 := hide (Step.of_below F hb2)
  clear hw2 HW HG x0 x1 x2 x3 hx r0 r1 r2 r3 c4 c5 c6 c7 c8 c9 f5 f6 f7 f8 f9 h3 h4 h5 h6 h7 h8 h9 hgl hcap h2 hb2
  obtain ⟨n0, n1, n2, n3⟩ := B1.out.cells0
  obtain ⟨x0, x1, x2, x3⟩ := B2.out.cells0
  by_cases hA : d = false ∧ next = x
  · obtain ⟨rfl, rfl⟩ := hA
    have HA := hide (show answer key path avoid next next false = dead path avoid next from if_pos ⟨rfl, rfl⟩)
    have t : same4 next.a next.b next.c next.d next.a next.b next.c next.d = true := by rw [same4_ids]; simp
    go_wp2_with fail
    refine (dead_any F bw key path avoid next w2 HW2.out HG2.out (by omega) hle).mono ?_
    rintro e w3 ⟨v, F', rfl, k1, k2, k3⟩
    have HK := hide (And.intro k1 (And.intro k2 (S2.out.trans k3)))
    clear k1 k2 k3 n0 n1 n2 n3 x0 x1 x2 x3
    go_wp2
    go_ret
    rw [HA.out]
    exact ⟨v, F', rfl, HK.out⟩
  · have hA2 : d = true ∨ (d = false ∧ next ≠ x) := by
      cases d
      · exact .inr ⟨rfl, fun e => hA ⟨rfl, e⟩⟩
      · exact .inl rfl
    have HA := hide (show answer key path avoid x next d = if (d = false ∧ ¬ InOpen next x key) ∨ next ∈ avoid then ⟨path ++ [x], avoid, false, true⟩ else ⟨(path ++ [x]) ++ [next], avoid, d, false⟩ from if_neg hA)
    rcases hA2 with rfl | ⟨rfl, hne⟩
    · go_upto_region 4 with fail
      go_cut [30] from 31 (fun s wx => s = .bool (decide ((true = false ∧ ¬ InOpen next x key) ∨ next ∈ avoid)) ∧ Hid (Below w2.heap.size w2 wx))
      case first =>
        obtain ⟨k1, k2, vp, va, ev, k3, k4, k5, k6, k7, k8, k9⟩ := HW2.out
        obtain ⟨⟨r0, r1, r2, r3⟩, c4, c5, c6, c7, c8, c9, f5, f6, f7, f8, f9⟩ := k4.all
        have C := hide (fun W (hW : Below w2.heap.size w2 W) => contains_any va avoid next W (by omega) ((k6.ids).later hW hW.size))
        have CI := hide (fun W => inOpen_any next x key W HX.out.2.2 HX.out.2.1 HX.out.1)
        obtain ⟨a6, cap6, rfl⟩ : ∃ a c, va = .slice a avoid.length c := by obtain ⟨a, c, h, _⟩ := k6.ids; exact ⟨a, c, h⟩
        have hs0 : w.heap.size < w2.heap.size := by omega
        have MK := hide (show ∀ W, Below w2.heap.size w2 W → (Below w2.heap.size w2 W ∧ (W.cell? ⟨w.heap.size, 0, none⟩ = some (.int .u64 next.a) ∧ W.cell? ⟨w.heap.size, 1, none⟩ = some (.int .u64 next.b) ∧ W.cell? ⟨w.heap.size, 2, none⟩ = some (.int .u64 next.c) ∧ W.cell? ⟨w.heap.size, 3, none⟩ = some (.int .u64 next.d)) ∧ (W.cell? ⟨w.heap.size + 1, 0, none⟩ = some (.int .u64 x.a) ∧ W.cell? ⟨w.heap.size + 1, 1, none⟩ = some (.int .u64 x.b) ∧ W.cell? ⟨w.heap.size + 1, 2, none⟩ = some (.int .u64 x.c) ∧ W.cell? ⟨w.heap.size + 1, 3, none⟩ = some (.int .u64 x.d)) ∧ (W.cell? ⟨bw, 0, none⟩ = some (.int .u64 key.a) ∧ W.cell? ⟨bw, 1, none⟩ = some (.int .u64 key.b) ∧ W.cell? ⟨bw, 2, none⟩ = some (.int .u64 key.c) ∧ W.cell? ⟨bw, 3, none⟩ = some (.int .u64 key.d)) ∧ W.cell? ⟨bw, 6, none⟩ = some (.slice a6 avoid.length cap6)) from fun W hW => ⟨hW, ⟨(hW.cell (p := ⟨w.heap.size, 0, none⟩) hs0).trans n0, (hW.cell (p := ⟨w.heap.size, 1, none⟩) hs0).trans n1, (hW.cell (p := ⟨w.heap.size, 2, none⟩) hs0).trans n2, (hW.cell (p := ⟨w.heap.size, 3, none⟩) hs0).trans n3⟩, ⟨(hW.cell (p := ⟨w.heap.size + 1, 0, none⟩) hs2).trans x0, (hW.cell (p := ⟨w.heap.size + 1, 1, none⟩) hs2).trans x1, (hW.cell (p := ⟨w.heap.size + 1, 2, none⟩) hs2).trans x2, (hW.cell (p := ⟨w.heap.size + 1, 3, none⟩) hs2).trans x3⟩, ⟨(hW.cell (p := ⟨bw, 0, none⟩) k2).trans r0, (hW.cell (p := ⟨bw, 1, none⟩) k2).trans r1, (hW.cell (p := ⟨bw, 2, none⟩) k2).trans r2, (hW.cell (p := ⟨bw, 3, none⟩) k2).trans r3⟩, (hW.cell (p := ⟨bw, 6, none⟩) k2).trans c6⟩)
        clear k3 k4 k5 k6 k7 k8 k9 c4 c5 c7 c8 c9 f5 f6 f7 f8 f9 r0 r1 r2 r3 n0 n1 n2 n3 x0 x1 x2 x3 c6
        refine wp_region_held_drew (S := fun W => Below w2.heap.size w2 W ∧ (W.cell? ⟨w.heap.size, 0, none⟩ = some (.int .u64 next.a) ∧ W.cell? ⟨w.heap.size, 1, none⟩ = some (.int .u64 next.b) ∧ W.cell? ⟨w.heap.size, 2, none⟩ = some (.int .u64 next.c) ∧ W.cell? ⟨w.heap.size, 3, none⟩ = some (.int .u64 next.d)) ∧ (W.cell? ⟨w.heap.size + 1, 0, none⟩ = some (.int .u64 x.a) ∧ W.cell? ⟨w.heap.size + 1, 1, none⟩ = some (.int .u64 x.b) ∧ W.cell? ⟨w.heap.size + 1, 2, none⟩ = some (.int .u64 x.c) ∧ W.cell? ⟨w.heap.size + 1, 3, none⟩ = some (.int .u64 x.d)) ∧ (W.cell? ⟨bw, 0, none⟩ = some (.int .u64 key.a) ∧ W.cell? ⟨bw, 1, none⟩ = some (.int .u64 key.b) ∧ W.cell? ⟨bw, 2, none⟩ = some (.int .u64 key.c) ∧ W.cell? ⟨bw, 3, none⟩ = some (.int .u64 key.d)) ∧ W.cell? ⟨bw, 6, none⟩ = some (.slice a6 avoid.length cap6)) (by kernel_rfl) ?_ (fun hHeld => ?_)
        · exact MK.out _ (below_drew _)
        refine wpAnyH_take (i := 0) (v := (.bool true)) rfl (by kernel_rfl) (by kernel_rfl) (by kernel_rfl) (fun _ _ _ h => h) (Or.inl ⟨by rfl, ?_⟩) hHeld ?_
        · intro w hSw; try dsimp only at hSw
          go_simp
        try simp only [Act.put, List.getElem_toArray, List.getElem_cons_zero, List.getElem_cons_succ, List.setIfInBounds_toArray, List.set_cons_zero, List.set_cons_succ]
        refine wpAnyH_take (i := 1) (v := (.bool false)) rfl (by kernel_rfl) (by kernel_rfl) (by kernel_rfl) (fun _ _ _ h => h) (Or.inl ⟨by rfl, ?_⟩) hHeld ?_
        · intro w hSw; try dsimp only at hSw
          go_simp
        try simp only [Act.put, List.getElem_toArray, List.getElem_cons_zero, List.getElem_cons_succ, List.setIfInBounds_toArray, List.set_cons_zero, List.set_cons_succ]
        refine wpAnyH_take (i := 2) (v := (.bool false)) rfl (by kernel_rfl) (by kernel_rfl) (by kernel_rfl) (fun _ _ _ h => h) (Or.inl ⟨by rfl, ?_⟩) hHeld ?_
        · intro w hSw; try dsimp only at hSw
          go_simp
        try simp only [Act.put, List.getElem_toArray, List.getElem_cons_zero, List.getElem_cons_succ, List.setIfInBounds_toArray, List.set_cons_zero, List.set_cons_succ]
        refine wpAnyH_take (i := 3) (v := undef) rfl (by kernel_rfl) (by kernel_rfl) (by kernel_rfl) (fun _ _ _ h => h) (Or.inr ⟨by rfl, rfl⟩) hHeld ?_
        try simp only [Act.put, List.getElem_toArray, List.getElem_cons_zero, List.getElem_cons_succ, List.setIfInBounds_toArray, List.set_cons_zero, List.set_cons_succ]
        refine wpAnyH_take (i := 4) (v := undef) rfl (by kernel_rfl) (by kernel_rfl) (by kernel_rfl) (fun _ _ _ h => h) (Or.inr ⟨by rfl, rfl⟩) hHeld ?_
        try simp only [Act.put, List.getElem_toArray, List.getElem_cons_zero, List.getElem_cons_succ, List.setIfInBounds_toArray, List.set_cons_zero, List.set_cons_succ]
        refine wpAnyH_take (i := 5) (v := undef) rfl (by kernel_rfl) (by kernel_rfl) (by kernel_rfl) (fun _ _ _ h => h) (Or.inr ⟨by rfl, rfl⟩) hHeld ?_
        try simp only [Act.put, List.getElem_toArray, List.getElem_cons_zero, List.getElem_cons_succ, List.setIfInBounds_toArray, List.set_cons_zero, List.set_cons_succ]
        refine wpAnyH_take (i := 6) (v := undef) rfl (by kernel_rfl) (by kernel_rfl) (by kernel_rfl) (fun _ _ _ h => h) (Or.inr ⟨by rfl, rfl⟩) hHeld ?_
        try simp only [Act.put, List.getElem_toArray, List.getElem_cons_zero, List.getElem_cons_succ, List.setIfInBounds_toArray, List.set_cons_zero, List.set_cons_succ]
        refine wpAnyH_take (i := 7) (v := undef) rfl (by kernel_rfl) (by kernel_rfl) (by kernel_rfl) (fun _ _ _ h => h) (Or.inr ⟨by rfl, rfl⟩) hHeld ?_
        try simp only [Act.put, List.getElem_toArray, List.getElem_cons_zero, List.getElem_cons_succ, List.setIfInBounds_toArray, List.set_cons_zero, List.set_cons_succ]
        refine wpAnyH_take (i := 8) (v := undef) rfl (by kernel_rfl) (by kernel_rfl) (by kernel_rfl) (fun _ _ _ h => h) (Or.inr ⟨by rfl, rfl⟩) hHeld ?_
        try simp only [Act.put, List.getElem_toArray, List.getElem_cons_zero, List.getElem_cons_succ, List.setIfInBounds_toArray, List.set_cons_zero, List.set_cons_succ]
        refine wpAnyH_take (i := 9) (v := undef) rfl (by kernel_rfl) (by kernel_rfl) (by kernel_rfl) (fun _ _ _ h => h) (Or.inr ⟨by rfl, rfl⟩) hHeld ?_
        try simp only [Act.put, List.getElem_toArray, List.getElem_cons_zero, List.getElem_cons_succ, List.setIfInBounds_toArray, List.set_cons_zero, List.set_cons_succ]
        refine wpAnyH_take (i := 10) (v := undef) rfl (by kernel_rfl) (by kernel_rfl) (by kernel_rfl) (fun _ _ _ h => h) (Or.inr ⟨by rfl, rfl⟩) hHeld ?_
        try simp only [Act.put, List.getElem_toArray, List.getElem_cons_zero, List.getElem_cons_succ, List.setIfInBounds_toArray, List.set_cons_zero, List.set_cons_succ]
        refine wpAnyH_take (i := 11) (v := (.bool false)) rfl (by kernel_rfl) (by kernel_rfl) (by kernel_rfl) (fun _ _ _ h => h) (Or.inl ⟨by rfl, ?_⟩) hHeld ?_
        · intro w hSw; try dsimp only at hSw
          go_simp
        try simp only [Act.put, List.getElem_toArray, List.getElem_cons_zero, List.getElem_cons_succ, List.setIfInBounds_toArray, List.set_cons_zero, List.set_cons_succ]
        refine wpAnyH_take (i := 12) (v := (.bool false)) rfl (by kernel_rfl) (by kernel_rfl) (by kernel_rfl) (fun _ _ _ h => h) (Or.inl ⟨by rfl, ?_⟩) hHeld ?_
        · intro w hSw; try dsimp only at hSw
          go_simp
        try simp only [Act.put, List.getElem_toArray, List.getElem_cons_zero, List.getElem_cons_succ, List.setIfInBounds_toArray, List.set_cons_zero, List.set_cons_succ]
        refine wpAnyH_take (i := 13) (v := (.pointer (some ⟨bw, 0, none⟩))) rfl (by kernel_rfl) (by kernel_rfl) (by kernel_rfl) (fun _ _ _ h => h) (Or.inl ⟨by rfl, ?_⟩) hHeld ?_
        · intro w hSw; try dsimp only at hSw
          go_simp
        try simp only [Act.put, List.getElem_toArray, List.getElem_cons_zero, List.getElem_cons_succ, List.setIfInBounds_toArray, List.set_cons_zero, List.set_cons_succ]
        refine wpAnyH_take (i := 14) (v := (.pointer (some ⟨bw, 0, none⟩))) rfl (by kernel_rfl) (by kernel_rfl) (by kernel_rfl) (fun _ _ _ h => h) (Or.inl ⟨by rfl, ?_⟩) hHeld ?_
        · intro w hSw; try dsimp only at hSw
          go_simp
        try simp only [Act.put, List.getElem_toArray, List.getElem_cons_zero, List.getElem_cons_succ, List.setIfInBounds_toArray, List.set_cons_zero, List.set_cons_succ]
        refine wpAnyH_take (i := 15) (v := (.pointer (some ⟨bw, 6, none⟩))) rfl (by kernel_rfl) (by kernel_rfl) (by kernel_rfl) (fun _ _ _ h => h) (Or.inl ⟨by rfl, ?_⟩) hHeld ?_
        · intro w hSw; try dsimp only at hSw
          go_simp
        try simp only [Act.put, List.getElem_toArray, List.getElem_cons_zero, List.getElem_cons_succ, List.setIfInBounds_toArray, List.set_cons_zero, List.set_cons_succ]
        refine wpAnyH_take (i := 16) (v := (.slice a6 avoid.length cap6)) rfl (by kernel_rfl) (by kernel_rfl) (by kernel_rfl) (fun _ _ _ h => h) (Or.inl ⟨by rfl, ?_⟩) hHeld ?_
        · intro w hSw; try dsimp only at hSw
          go_simp
        try simp only [Act.put, List.getElem_toArray, List.getElem_cons_zero, List.getElem_cons_succ, List.setIfInBounds_toArray, List.set_cons_zero, List.set_cons_succ]
        refine wpAnyH_take (i := 17) (v := (idV next)) rfl (by kernel_rfl) (by kernel_rfl) (by kernel_rfl) (fun _ _ _ h => h) (Or.inl ⟨by rfl, ?_⟩) hHeld ?_
        · intro w hSw; try dsimp only at hSw
          go_simp
        try simp only [Act.put, List.getElem_toArray, List.getElem_cons_zero, List.getElem_cons_succ, List.setIfInBounds_toArray, List.set_cons_zero, List.set_cons_succ]
        refine wpAnyH_ready (rs := [18]) (by kernel_rfl) (by simp) ?_
        refine AllReadyH.cons rfl (fun K hK => ?_) AllReadyH.nil
        go_simp
        refine (C.out _ (below_drew _)).mono ?_
        rintro e w3 ⟨rfl, hb3⟩
        refine hK.out _ _ ?_ (fun hHeld => ?_)
        · exact MK.out _ ((below_drew w2).trans hb3)
        clear hK K
        try simp only [Act.put, List.getElem_toArray, List.getElem_cons_zero, List.getElem_cons_succ, List.setIfInBounds_toArray, List.set_cons_zero, List.set_cons_succ]
        refine wpAnyH_take (i := 19) (v := (.bool (decide (next ∈ avoid)))) rfl (by kernel_rfl) (by kernel_rfl) (by kernel_rfl) (fun _ _ _ h => h) (Or.inl ⟨by rfl, ?_⟩) hHeld ?_
        · intro w hSw; try dsimp only at hSw
          go_simp
        try simp only [Act.put, List.getElem_toArray, List.getElem_cons_zero, List.getElem_cons_succ, List.setIfInBounds_toArray, List.set_cons_zero, List.set_cons_succ]
        refine wpAnyH_take (i := 20) (v := (.bool (decide (next ∈ avoid)))) rfl (by kernel_rfl) (by kernel_rfl) (by kernel_rfl) (fun _ _ _ h => h) (Or.inl ⟨by rfl, ?_⟩) hHeld ?_
        · intro w hSw; try dsimp only at hSw
          go_simp
        try simp only [Act.put, List.getElem_toArray, List.getElem_cons_zero, List.getElem_cons_succ, List.setIfInBounds_toArray, List.set_cons_zero, List.set_cons_succ]
        refine wpAnyH_done (by kernel_rfl) ?_ _
        go_wp2_with fail
        go_meet
        exact ⟨by simp, hide ((below_drew w2).trans hb3)⟩
      case rest =>
      obtain ⟨rfl, hbx⟩ := hcut
      rename World => w3
      have HW3 := hide (HW2.out.below hbx.out)
      have HG3 := hide (HG2.out.step (Step.of_below F hbx.out))
      have S3 := hide (S2.out.trans (Step.of_below F hbx.out))
      have b1 := (B1.out.later hbx.out (by omega)).cells0
      have hs3 : w.heap.size + 1 < w3.heap.size := Nat.lt_of_lt_of_le hs2 hbx.out.size
      clear HW2 HG2 B1 B2 hbx n0 n1 n2 n3 x0 x1 x2 x3 S2 hs2
      obtain ⟨n0, n1, n2, n3⟩ := b1
      obtain ⟨k1, k2, vp, va, ev, k3, k4, k5, k6, k7, k8, k9⟩ := HW3.out
      obtain ⟨_, c4, c5, c6, c7, c8, c9, f5, f6, f7, f8, f9⟩ := k4.all
      by_cases hB : (true = false ∧ ¬ InOpen next x key) ∨ next ∈ avoid
      · have T : decide ((true = false ∧ ¬ InOpen next x key) ∨ next ∈ avoid) = true := decide_eq_true hB
        rw [T]
        rw [if_pos hB] at HA
        obtain ⟨q1, q2, q3, ⟨u, ⟨t, p, rfl⟩, hu⟩, _⟩ := HG3.out
        have hne0 : bw ≠ 0 := fun e => q1 (by rw [← e]; exact k1)
        have hw0 : 0 < w3.heap.size := by omega
        clear k3 k4 k5 k6 k7 k8 k9 hB T
        go_wp2
        go_ret
        rw [HA.out]
        exact ⟨_, F, rfl, .inr ⟨rfl, t, p, rfl⟩, HW3.out.setErr ⟨t, p, rfl⟩, S3.out.trans (step_set k1 9 _)⟩
      · have T : decide ((true = false ∧ ¬ InOpen next x key) ∨ next ∈ avoid) = false := decide_eq_false hB
        rw [T]
        rw [if_neg hB] at HA
        obtain ⟨g3, cap3, rfl, hg3, hcap3, hmax3, _, _⟩ := k5.last
        obtain ⟨wa, hwa⟩ : ∃ z, z = (w3.alloc (box next 27)).drew := ⟨_, rfl⟩
        have hba : Below w3.heap.size w3 wa := by rw [hwa]; exact ((Below.refl _ _).alloc (Nat.le_refl _) _).drew
        have P := hide (fun g n cap w2 hgr hr hfr => walk_push_path (x := next) (wa := wa) (w2 := w2) (g := g) (n := n) (cap := cap) k1 k2 k3 k4 k5 k6 k7 k8 k9 hba hgr hr hfr)
        have HR := hide (k5.below hba)
        have HKp := hide (show ∀ w2, wa.grownBy w2 (Value.slice (some ⟨g3, 0, none⟩) (path.length + 1) cap3).ownBlock → w2.heap[bw]? = w3.heap[bw]? from fun w2 hgr => (hgr.block bw (Nat.lt_of_lt_of_le k2 hba.size) (fun e => (k7 bw e.symm).2 rfl)).trans (hba.block bw k2))
        have HN := hide (show ∀ j, j < 4 → wa.cell? ((⟨w3.heap.size, 0, none⟩ : Addr).add j) = some (.int .u64 (lim next j)) from fun j hj => by
          rw [add_plain, hwa]
          have := idAt_new w3 next 27 j hj
          simpa using this)
        have hl : (path ++ [x]).length ≤ 1000000 := by simp; omega
        rw [hwa] at HR HN HKp P
        have HL := hide hl
        clear k3 k4 k5 k6 k7 k8 k9 hba hwa hB T HW3 hl
        go_wp2
        go_region_law (refine step_push rfl (.tmp 64) (.tmp 66) 41 rfl 27 i0 (.agg #[.int .u64 0, .int .u64 0, .int .u64 0, .int .u64 0]) Tryd.underlying41 hi hz0 hz1 hz2 rfl (.slice (some ⟨g3, 0, none⟩) (path.length + 1) cap3) (path ++ [x]) next (by simp [Act.eval]) HR.out HL.out ⟨w3.heap.size, 0, none⟩ 1 (by simp [Act.eval]) HN.out ?_; intro g cap2 w4 hr2 hg2 hfr2; have hk2 := HKp.out w4 hg2; have d5 := (World.cell?_of_block (a := ⟨bw, 5, none⟩) hk2).trans c5; have e5 := (World.frozen?_of_block (a := ⟨bw, 5, none⟩) hk2).trans f5; have d7 := (World.cell?_of_block (a := ⟨bw, 7, none⟩) hk2).trans c7; have e7 := (World.frozen?_of_block (a := ⟨bw, 7, none⟩) hk2).trans f7; rw [List.length_append] at hr2; have HF := hide (P.out g (path.length + 1 + 1) cap2 w4 hg2 hr2 hfr2); clear hr2 hg2 hfr2 hk2)
        all_goals
          go_wp2
          go_ret
          rw [HA.out]
          exact ⟨_, _, rfl, .inl ⟨rfl, rfl⟩, HF.out.1.setDone _, S3.out.trans (HF.out.2.trans (step_set HF.out.1.1 7 _))⟩
    · have t : same4 next.a next.b next.c next.d x.a x.b x.c x.d = false := by rw [same4_ids]; simpa using hne
      go_upto_region 4 with fail
      go_cut [30] from 31 (fun s wx => s = .bool (decide ((false = false ∧ ¬ InOpen next x key) ∨ next ∈ avoid)) ∧ Hid (Below w2.heap.size w2 wx))
      case first =>
        by_cases hio : InOpen next x key
        · have hIO : decide (InOpen next x key) = true := decide_eq_true hio
          have HIO := hide hio
          clear hio
          obtain ⟨k1, k2, vp, va, ev, k3, k4, k5, k6, k7, k8, k9⟩ := HW2.out
          obtain ⟨⟨r0, r1, r2, r3⟩, c4, c5, c6, c7, c8, c9, f5, f6, f7, f8, f9⟩ := k4.all
          have C := hide (fun W (hW : Below w2.heap.size w2 W) => contains_any va avoid next W (by omega) ((k6.ids).later hW hW.size))
          have CI := hide (fun W => inOpen_any next x key W HX.out.2.2 HX.out.2.1 HX.out.1)
          obtain ⟨a6, cap6, rfl⟩ : ∃ a c, va = .slice a avoid.length c := by obtain ⟨a, c, h, _⟩ := k6.ids; exact ⟨a, c, h⟩
          have hs0 : w.heap.size < w2.heap.size := by omega
          have MK := hide (show ∀ W, Below w2.heap.size w2 W → (Below w2.heap.size w2 W ∧ (W.cell? ⟨w.heap.size, 0, none⟩ = some (.int .u64 next.a) ∧ W.cell? ⟨w.heap.size, 1, none⟩ = some (.int .u64 next.b) ∧ W.cell? ⟨w.heap.size, 2, none⟩ = some (.int .u64 next.c) ∧ W.cell? ⟨w.heap.size, 3, none⟩ = some (.int .u64 next.d)) ∧ (W.cell? ⟨w.heap.size + 1, 0, none⟩ = some (.int .u64 x.a) ∧ W.cell? ⟨w.heap.size + 1, 1, none⟩ = some (.int .u64 x.b) ∧ W.cell? ⟨w.heap.size + 1, 2, none⟩ = some (.int .u64 x.c) ∧ W.cell? ⟨w.heap.size + 1, 3, none⟩ = some (.int .u64 x.d)) ∧ (W.cell? ⟨bw, 0, none⟩ = some (.int .u64 key.a) ∧ W.cell? ⟨bw, 1, none⟩ = some (.int .u64 key.b) ∧ W.cell? ⟨bw, 2, none⟩ = some (.int .u64 key.c) ∧ W.cell? ⟨bw, 3, none⟩ = some (.int .u64 key.d)) ∧ W.cell? ⟨bw, 6, none⟩ = some (.slice a6 avoid.length cap6)) from fun W hW => ⟨hW, ⟨(hW.cell (p := ⟨w.heap.size, 0, none⟩) hs0).trans n0, (hW.cell (p := ⟨w.heap.size, 1, none⟩) hs0).trans n1, (hW.cell (p := ⟨w.heap.size, 2, none⟩) hs0).trans n2, (hW.cell (p := ⟨w.heap.size, 3, none⟩) hs0).trans n3⟩, ⟨(hW.cell (p := ⟨w.heap.size + 1, 0, none⟩) hs2).trans x0, (hW.cell (p := ⟨w.heap.size + 1, 1, none⟩) hs2).trans x1, (hW.cell (p := ⟨w.heap.size + 1, 2, none⟩) hs2).trans x2, (hW.cell (p := ⟨w.heap.size + 1, 3, none⟩) hs2).trans x3⟩, ⟨(hW.cell (p := ⟨bw, 0, none⟩) k2).trans r0, (hW.cell (p := ⟨bw, 1, none⟩) k2).trans r1, (hW.cell (p := ⟨bw, 2, none⟩) k2).trans r2, (hW.cell (p := ⟨bw, 3, none⟩) k2).trans r3⟩, (hW.cell (p := ⟨bw, 6, none⟩) k2).trans c6⟩)
          clear k3 k4 k5 k6 k7 k8 k9 c4 c5 c7 c8 c9 f5 f6 f7 f8 f9 r0 r1 r2 r3 n0 n1 n2 n3 x0 x1 x2 x3 c6
          refine wp_region_held_drew (S := fun W => Below w2.heap.size w2 W ∧ (W.cell? ⟨w.heap.size, 0, none⟩ = some (.int .u64 next.a) ∧ W.cell? ⟨w.heap.size, 1, none⟩ = some (.int .u64 next.b) ∧ W.cell? ⟨w.heap.size, 2, none⟩ = some (.int .u64 next.c) ∧ W.cell? ⟨w.heap.size, 3, none⟩ = some (.int .u64 next.d)) ∧ (W.cell? ⟨w.heap.size + 1, 0, none⟩ = some (.int .u64 x.a) ∧ W.cell? ⟨w.heap.size + 1, 1, none⟩ = some (.int .u64 x.b) ∧ W.cell? ⟨w.heap.size + 1, 2, none⟩ = some (.int .u64 x.c) ∧ W.cell? ⟨w.heap.size + 1, 3, none⟩ = some (.int .u64 x.d)) ∧ (W.cell? ⟨bw, 0, none⟩ = some (.int .u64 key.a) ∧ W.cell? ⟨bw, 1, none⟩ = some (.int .u64 key.b) ∧ W.cell? ⟨bw, 2, none⟩ = some (.int .u64 key.c) ∧ W.cell? ⟨bw, 3, none⟩ = some (.int .u64 key.d)) ∧ W.cell? ⟨bw, 6, none⟩ = some (.slice a6 avoid.length cap6)) (by kernel_rfl) ?_ (fun hHeld => ?_)
          · exact MK.out _ (below_drew _)
          refine wpAnyH_take (i := 0) (v := (.bool false)) rfl (by kernel_rfl) (by kernel_rfl) (by kernel_rfl) (fun _ _ _ h => h) (Or.inl ⟨by rfl, ?_⟩) hHeld ?_
          · intro w hSw; try dsimp only at hSw
            go_simp
          try simp only [Act.put, List.getElem_toArray, List.getElem_cons_zero, List.getElem_cons_succ, List.setIfInBounds_toArray, List.set_cons_zero, List.set_cons_succ]
          refine wpAnyH_take (i := 1) (v := (.bool true)) rfl (by kernel_rfl) (by kernel_rfl) (by kernel_rfl) (fun _ _ _ h => h) (Or.inl ⟨by rfl, ?_⟩) hHeld ?_
          · intro w hSw; try dsimp only at hSw
            go_simp
          try simp only [Act.put, List.getElem_toArray, List.getElem_cons_zero, List.getElem_cons_succ, List.setIfInBounds_toArray, List.set_cons_zero, List.set_cons_succ]
          refine wpAnyH_take (i := 2) (v := (.bool true)) rfl (by kernel_rfl) (by kernel_rfl) (by kernel_rfl) (fun _ _ _ h => h) (Or.inl ⟨by rfl, ?_⟩) hHeld ?_
          · intro w hSw; try dsimp only at hSw
            go_simp
          try simp only [Act.put, List.getElem_toArray, List.getElem_cons_zero, List.getElem_cons_succ, List.setIfInBounds_toArray, List.set_cons_zero, List.set_cons_succ]
          refine wpAnyH_take (i := 3) (v := (idV next)) rfl (by kernel_rfl) (by kernel_rfl) (by kernel_rfl) (fun _ _ _ h => h) (Or.inl ⟨by rfl, ?_⟩) hHeld ?_
          · intro w hSw; try dsimp only at hSw
            go_simp
          try simp only [Act.put, List.getElem_toArray, List.getElem_cons_zero, List.getElem_cons_succ, List.setIfInBounds_toArray, List.set_cons_zero, List.set_cons_succ]
          refine wpAnyH_take (i := 4) (v := (idV x)) rfl (by kernel_rfl) (by kernel_rfl) (by kernel_rfl) (fun _ _ _ h => h) (Or.inl ⟨by rfl, ?_⟩) hHeld ?_
          · intro w hSw; try dsimp only at hSw
            go_simp
          try simp only [Act.put, List.getElem_toArray, List.getElem_cons_zero, List.getElem_cons_succ, List.setIfInBounds_toArray, List.set_cons_zero, List.set_cons_succ]
          refine wpAnyH_take (i := 5) (v := (.pointer (some ⟨bw, 0, none⟩))) rfl (by kernel_rfl) (by kernel_rfl) (by kernel_rfl) (fun _ _ _ h => h) (Or.inl ⟨by rfl, ?_⟩) hHeld ?_
          · intro w hSw; try dsimp only at hSw
            go_simp
          try simp only [Act.put, List.getElem_toArray, List.getElem_cons_zero, List.getElem_cons_succ, List.setIfInBounds_toArray, List.set_cons_zero, List.set_cons_succ]
          refine wpAnyH_take (i := 6) (v := (.pointer (some ⟨bw, 0, none⟩))) rfl (by kernel_rfl) (by kernel_rfl) (by kernel_rfl) (fun _ _ _ h => h) (Or.inl ⟨by rfl, ?_⟩) hHeld ?_
          · intro w hSw; try dsimp only at hSw
            go_simp
          try simp only [Act.put, List.getElem_toArray, List.getElem_cons_zero, List.getElem_cons_succ, List.setIfInBounds_toArray, List.set_cons_zero, List.set_cons_succ]
          refine wpAnyH_take (i := 7) (v := (.pointer (some ⟨bw, 0, none⟩))) rfl (by kernel_rfl) (by kernel_rfl) (by kernel_rfl) (fun _ _ _ h => h) (Or.inl ⟨by rfl, ?_⟩) hHeld ?_
          · intro w hSw; try dsimp only at hSw
            go_simp
          try simp only [Act.put, List.getElem_toArray, List.getElem_cons_zero, List.getElem_cons_succ, List.setIfInBounds_toArray, List.set_cons_zero, List.set_cons_succ]
          refine wpAnyH_take (i := 8) (v := (idV key)) rfl (by kernel_rfl) (by kernel_rfl) (by kernel_rfl) (fun _ _ _ h => h) (Or.inl ⟨by rfl, ?_⟩) hHeld ?_
          · intro w hSw; try dsimp only at hSw
            go_simp
          try simp only [Act.put, List.getElem_toArray, List.getElem_cons_zero, List.getElem_cons_succ, List.setIfInBounds_toArray, List.set_cons_zero, List.set_cons_succ]
          refine wpAnyH_ready (rs := [9]) (by kernel_rfl) (by simp) ?_
          refine AllReadyH.cons rfl (fun K hK => ?_) AllReadyH.nil
          go_simp
          refine (CI.out _).mono ?_
          rintro e w3 ⟨rfl, hb3⟩
          rw [hIO]
          refine hK.out _ _ ?_ (fun hHeld => ?_)
          · exact MK.out _ ((below_drew w2).trans hb3)
          clear hK K
          try simp only [Act.put, List.getElem_toArray, List.getElem_cons_zero, List.getElem_cons_succ, List.setIfInBounds_toArray, List.set_cons_zero, List.set_cons_succ]
          refine wpAnyH_take (i := 10) (v := (.bool false)) rfl (by kernel_rfl) (by kernel_rfl) (by kernel_rfl) (fun _ _ _ h => h) (Or.inl ⟨by rfl, ?_⟩) hHeld ?_
          · intro w hSw; try dsimp only at hSw
            go_simp
          try simp only [Act.put, List.getElem_toArray, List.getElem_cons_zero, List.getElem_cons_succ, List.setIfInBounds_toArray, List.set_cons_zero, List.set_cons_succ]
          refine wpAnyH_take (i := 11) (v := (.bool false)) rfl (by kernel_rfl) (by kernel_rfl) (by kernel_rfl) (fun _ _ _ h => h) (Or.inl ⟨by rfl, ?_⟩) hHeld ?_
          · intro w hSw; try dsimp only at hSw
            go_simp
          try simp only [Act.put, List.getElem_toArray, List.getElem_cons_zero, List.getElem_cons_succ, List.setIfInBounds_toArray, List.set_cons_zero, List.set_cons_succ]
          refine wpAnyH_take (i := 12) (v := (.bool false)) rfl (by kernel_rfl) (by kernel_rfl) (by kernel_rfl) (fun _ _ _ h => h) (Or.inl ⟨by rfl, ?_⟩) hHeld ?_
          · intro w hSw; try dsimp only at hSw
            go_simp
          try simp only [Act.put, List.getElem_toArray, List.getElem_cons_zero, List.getElem_cons_succ, List.setIfInBounds_toArray, List.set_cons_zero, List.set_cons_succ]
          refine wpAnyH_take (i := 13) (v := (.pointer (some ⟨bw, 0, none⟩))) rfl (by kernel_rfl) (by kernel_rfl) (by kernel_rfl) (fun _ _ _ h => h) (Or.inl ⟨by rfl, ?_⟩) hHeld ?_
          · intro w hSw; try dsimp only at hSw
            go_simp
          try simp only [Act.put, List.getElem_toArray, List.getElem_cons_zero, List.getElem_cons_succ, List.setIfInBounds_toArray, List.set_cons_zero, List.set_cons_succ]
          refine wpAnyH_take (i := 14) (v := (.pointer (some ⟨bw, 0, none⟩))) rfl (by kernel_rfl) (by kernel_rfl) (by kernel_rfl) (fun _ _ _ h => h) (Or.inl ⟨by rfl, ?_⟩) hHeld ?_
          · intro w hSw; try dsimp only at hSw
            go_simp
          try simp only [Act.put, List.getElem_toArray, List.getElem_cons_zero, List.getElem_cons_succ, List.setIfInBounds_toArray, List.set_cons_zero, List.set_cons_succ]
          refine wpAnyH_take (i := 15) (v := (.pointer (some ⟨bw, 6, none⟩))) rfl (by kernel_rfl) (by kernel_rfl) (by kernel_rfl) (fun _ _ _ h => h) (Or.inl ⟨by rfl, ?_⟩) hHeld ?_
          · intro w hSw; try dsimp only at hSw
            go_simp
          try simp only [Act.put, List.getElem_toArray, List.getElem_cons_zero, List.getElem_cons_succ, List.setIfInBounds_toArray, List.set_cons_zero, List.set_cons_succ]
          refine wpAnyH_take (i := 16) (v := (.slice a6 avoid.length cap6)) rfl (by kernel_rfl) (by kernel_rfl) (by kernel_rfl) (fun _ _ _ h => h) (Or.inl ⟨by rfl, ?_⟩) hHeld ?_
          · intro w hSw; try dsimp only at hSw
            go_simp
          try simp only [Act.put, List.getElem_toArray, List.getElem_cons_zero, List.getElem_cons_succ, List.setIfInBounds_toArray, List.set_cons_zero, List.set_cons_succ]
          refine wpAnyH_take (i := 17) (v := (idV next)) rfl (by kernel_rfl) (by kernel_rfl) (by kernel_rfl) (fun _ _ _ h => h) (Or.inl ⟨by rfl, ?_⟩) hHeld ?_
          · intro w hSw; try dsimp only at hSw
            go_simp
          try simp only [Act.put, List.getElem_toArray, List.getElem_cons_zero, List.getElem_cons_succ, List.setIfInBounds_toArray, List.set_cons_zero, List.set_cons_succ]
          refine wpAnyH_ready (rs := [18]) (by kernel_rfl) (by simp) ?_
          refine AllReadyH.cons rfl (fun K hK => ?_) AllReadyH.nil
          go_simp
          refine (C.out _ ((below_drew w2).trans hb3)).mono ?_
          rintro e w4 ⟨rfl, hb4⟩
          refine hK.out _ _ ?_ (fun hHeld => ?_)
          · exact MK.out _ (((below_drew w2).trans hb3).trans (hb4.mono ((below_drew w2).trans hb3).size))
          clear hK K
          try simp only [Act.put, List.getElem_toArray, List.getElem_cons_zero, List.getElem_cons_succ, List.setIfInBounds_toArray, List.set_cons_zero, List.set_cons_succ]
          refine wpAnyH_take (i := 19) (v := (.bool (decide (next ∈ avoid)))) rfl (by kernel_rfl) (by kernel_rfl) (by kernel_rfl) (fun _ _ _ h => h) (Or.inl ⟨by rfl, ?_⟩) hHeld ?_
          · intro w hSw; try dsimp only at hSw
            go_simp
          try simp only [Act.put, List.getElem_toArray, List.getElem_cons_zero, List.getElem_cons_succ, List.setIfInBounds_toArray, List.set_cons_zero, List.set_cons_succ]
          refine wpAnyH_take (i := 20) (v := (.bool (decide (next ∈ avoid)))) rfl (by kernel_rfl) (by kernel_rfl) (by kernel_rfl) (fun _ _ _ h => h) (Or.inl ⟨by rfl, ?_⟩) hHeld ?_
          · intro w hSw; try dsimp only at hSw
            go_simp
          try simp only [Act.put, List.getElem_toArray, List.getElem_cons_zero, List.getElem_cons_succ, List.setIfInBounds_toArray, List.set_cons_zero, List.set_cons_succ]
          refine wpAnyH_done (by kernel_rfl) ?_ _
          go_wp2_with fail
          go_meet
          exact ⟨by simp [HIO.out], hide (((below_drew w2).trans hb3).trans (hb4.mono ((below_drew w2).trans hb3).size))⟩
        · have hIO : decide (InOpen next x key) = false := decide_eq_false hio
          have HIO := hide hio
          clear hio
          obtain ⟨k1, k2, vp, va, ev, k3, k4, k5, k6, k7, k8, k9⟩ := HW2.out
          obtain ⟨⟨r0, r1, r2, r3⟩, c4, c5, c6, c7, c8, c9, f5, f6, f7, f8, f9⟩ := k4.all
          have C := hide (fun W (hW : Below w2.heap.size w2 W) => contains_any va avoid next W (by omega) ((k6.ids).later hW hW.size))
          have CI := hide (fun W => inOpen_any next x key W HX.out.2.2 HX.out.2.1 HX.out.1)
          obtain ⟨a6, cap6, rfl⟩ : ∃ a c, va = .slice a avoid.length c := by obtain ⟨a, c, h, _⟩ := k6.ids; exact ⟨a, c, h⟩
          have hs0 : w.heap.size < w2.heap.size := by omega
          have MK := hide (show ∀ W, Below w2.heap.size w2 W → (Below w2.heap.size w2 W ∧ (W.cell? ⟨w.heap.size, 0, none⟩ = some (.int .u64 next.a) ∧ W.cell? ⟨w.heap.size, 1, none⟩ = some (.int .u64 next.b) ∧ W.cell? ⟨w.heap.size, 2, none⟩ = some (.int .u64 next.c) ∧ W.cell? ⟨w.heap.size, 3, none⟩ = some (.int .u64 next.d)) ∧ (W.cell? ⟨w.heap.size + 1, 0, none⟩ = some (.int .u64 x.a) ∧ W.cell? ⟨w.heap.size + 1, 1, none⟩ = some (.int .u64 x.b) ∧ W.cell? ⟨w.heap.size + 1, 2, none⟩ = some (.int .u64 x.c) ∧ W.cell? ⟨w.heap.size + 1, 3, none⟩ = some (.int .u64 x.d)) ∧ (W.cell? ⟨bw, 0, none⟩ = some (.int .u64 key.a) ∧ W.cell? ⟨bw, 1, none⟩ = some (.int .u64 key.b) ∧ W.cell? ⟨bw, 2, none⟩ = some (.int .u64 key.c) ∧ W.cell? ⟨bw, 3, none⟩ = some (.int .u64 key.d)) ∧ W.cell? ⟨bw, 6, none⟩ = some (.slice a6 avoid.length cap6)) from fun W hW => ⟨hW, ⟨(hW.cell (p := ⟨w.heap.size, 0, none⟩) hs0).trans n0, (hW.cell (p := ⟨w.heap.size, 1, none⟩) hs0).trans n1, (hW.cell (p := ⟨w.heap.size, 2, none⟩) hs0).trans n2, (hW.cell (p := ⟨w.heap.size, 3, none⟩) hs0).trans n3⟩, ⟨(hW.cell (p := ⟨w.heap.size + 1, 0, none⟩) hs2).trans x0, (hW.cell (p := ⟨w.heap.size + 1, 1, none⟩) hs2).trans x1, (hW.cell (p := ⟨w.heap.size + 1, 2, none⟩) hs2).trans x2, (hW.cell (p := ⟨w.heap.size + 1, 3, none⟩) hs2).trans x3⟩, ⟨(hW.cell (p := ⟨bw, 0, none⟩) k2).trans r0, (hW.cell (p := ⟨bw, 1, none⟩) k2).trans r1, (hW.cell (p := ⟨bw, 2, none⟩) k2).trans r2, (hW.cell (p := ⟨bw, 3, none⟩) k2).trans r3⟩, (hW.cell (p := ⟨bw, 6, none⟩) k2).trans c6⟩)
          clear k3 k4 k5 k6 k7 k8 k9 c4 c5 c7 c8 c9 f5 f6 f7 f8 f9 r0 r1 r2 r3 n0 n1 n2 n3 x0 x1 x2 x3 c6
          refine wp_region_held_drew (S := fun W => Below w2.heap.size w2 W ∧ (W.cell? ⟨w.heap.size, 0, none⟩ = some (.int .u64 next.a) ∧ W.cell? ⟨w.heap.size, 1, none⟩ = some (.int .u64 next.b) ∧ W.cell? ⟨w.heap.size, 2, none⟩ = some (.int .u64 next.c) ∧ W.cell? ⟨w.heap.size, 3, none⟩ = some (.int .u64 next.d)) ∧ (W.cell? ⟨w.heap.size + 1, 0, none⟩ = some (.int .u64 x.a) ∧ W.cell? ⟨w.heap.size + 1, 1, none⟩ = some (.int .u64 x.b) ∧ W.cell? ⟨w.heap.size + 1, 2, none⟩ = some (.int .u64 x.c) ∧ W.cell? ⟨w.heap.size + 1, 3, none⟩ = some (.int .u64 x.d)) ∧ (W.cell? ⟨bw, 0, none⟩ = some (.int .u64 key.a) ∧ W.cell? ⟨bw, 1, none⟩ = some (.int .u64 key.b) ∧ W.cell? ⟨bw, 2, none⟩ = some (.int .u64 key.c) ∧ W.cell? ⟨bw, 3, none⟩ = some (.int .u64 key.d)) ∧ W.cell? ⟨bw, 6, none⟩ = some (.slice a6 avoid.length cap6)) (by kernel_rfl) ?_ (fun hHeld => ?_)
          · exact MK.out _ (below_drew _)
          refine wpAnyH_take (i := 0) (v := (.bool false)) rfl (by kernel_rfl) (by kernel_rfl) (by kernel_rfl) (fun _ _ _ h => h) (Or.inl ⟨by rfl, ?_⟩) hHeld ?_
          · intro w hSw; try dsimp only at hSw
            go_simp
          try simp only [Act.put, List.getElem_toArray, List.getElem_cons_zero, List.getElem_cons_succ, List.setIfInBounds_toArray, List.set_cons_zero, List.set_cons_succ]
          refine wpAnyH_take (i := 1) (v := (.bool true)) rfl (by kernel_rfl) (by kernel_rfl) (by kernel_rfl) (fun _ _ _ h => h) (Or.inl ⟨by rfl, ?_⟩) hHeld ?_
          · intro w hSw; try dsimp only at hSw
            go_simp
          try simp only [Act.put, List.getElem_toArray, List.getElem_cons_zero, List.getElem_cons_succ, List.setIfInBounds_toArray, List.set_cons_zero, List.set_cons_succ]
          refine wpAnyH_take (i := 2) (v := (.bool true)) rfl (by kernel_rfl) (by kernel_rfl) (by kernel_rfl) (fun _ _ _ h => h) (Or.inl ⟨by rfl, ?_⟩) hHeld ?_
          · intro w hSw; try dsimp only at hSw
            go_simp
          try simp only [Act.put, List.getElem_toArray, List.getElem_cons_zero, List.getElem_cons_succ, List.setIfInBounds_toArray, List.set_cons_zero, List.set_cons_succ]
          refine wpAnyH_take (i := 3) (v := (idV next)) rfl (by kernel_rfl) (by kernel_rfl) (by kernel_rfl) (fun _ _ _ h => h) (Or.inl ⟨by rfl, ?_⟩) hHeld ?_
          · intro w hSw; try dsimp only at hSw
            go_simp
          try simp only [Act.put, List.getElem_toArray, List.getElem_cons_zero, List.getElem_cons_succ, List.setIfInBounds_toArray, List.set_cons_zero, List.set_cons_succ]
          refine wpAnyH_take (i := 4) (v := (idV x)) rfl (by kernel_rfl) (by kernel_rfl) (by kernel_rfl) (fun _ _ _ h => h) (Or.inl ⟨by rfl, ?_⟩) hHeld ?_
          · intro w hSw; try dsimp only at hSw
            go_simp
          try simp only [Act.put, List.getElem_toArray, List.getElem_cons_zero, List.getElem_cons_succ, List.setIfInBounds_toArray, List.set_cons_zero, List.set_cons_succ]
          refine wpAnyH_take (i := 5) (v := (.pointer (some ⟨bw, 0, none⟩))) rfl (by kernel_rfl) (by kernel_rfl) (by kernel_rfl) (fun _ _ _ h => h) (Or.inl ⟨by rfl, ?_⟩) hHeld ?_
          · intro w hSw; try dsimp only at hSw
            go_simp
          try simp only [Act.put, List.getElem_toArray, List.getElem_cons_zero, List.getElem_cons_succ, List.setIfInBounds_toArray, List.set_cons_zero, List.set_cons_succ]
          refine wpAnyH_take (i := 6) (v := (.pointer (some ⟨bw, 0, none⟩))) rfl (by kernel_rfl) (by kernel_rfl) (by kernel_rfl) (fun _ _ _ h => h) (Or.inl ⟨by rfl, ?_⟩) hHeld ?_
          · intro w hSw; try dsimp only at hSw
            go_simp
          try simp only [Act.put, List.getElem_toArray, List.getElem_cons_zero, List.getElem_cons_succ, List.setIfInBounds_toArray, List.set_cons_zero, List.set_cons_succ]
          refine wpAnyH_take (i := 7) (v := (.pointer (some ⟨bw, 0, none⟩))) rfl (by kernel_rfl) (by kernel_rfl) (by kernel_rfl) (fun _ _ _ h => h) (Or.inl ⟨by rfl, ?_⟩) hHeld ?_
          · intro w hSw; try dsimp only at hSw
            go_simp
          try simp only [Act.put, List.getElem_toArray, List.getElem_cons_zero, List.getElem_cons_succ, List.setIfInBounds_toArray, List.set_cons_zero, List.set_cons_succ]
          refine wpAnyH_take (i := 8) (v := (idV key)) rfl (by kernel_rfl) (by kernel_rfl) (by kernel_rfl) (fun _ _ _ h => h) (Or.inl ⟨by rfl, ?_⟩) hHeld ?_
          · intro w hSw; try dsimp only at hSw
            go_simp
          try simp only [Act.put, List.getElem_toArray, List.getElem_cons_zero, List.getElem_cons_succ, List.setIfInBounds_toArray, List.set_cons_zero, List.set_cons_succ]
          refine wpAnyH_ready (rs := [9]) (by kernel_rfl) (by simp) ?_
          refine AllReadyH.cons rfl (fun K hK => ?_) AllReadyH.nil
          go_simp
          refine (CI.out _).mono ?_
          rintro e w3 ⟨rfl, hb3⟩
          rw [hIO]
          refine hK.out _ _ ?_ (fun hHeld => ?_)
          · exact MK.out _ ((below_drew w2).trans hb3)
          clear hK K
          try simp only [Act.put, List.getElem_toArray, List.getElem_cons_zero, List.getElem_cons_succ, List.setIfInBounds_toArray, List.set_cons_zero, List.set_cons_succ]
          refine wpAnyH_take (i := 10) (v := (.bool true)) rfl (by kernel_rfl) (by kernel_rfl) (by kernel_rfl) (fun _ _ _ h => h) (Or.inl ⟨by rfl, ?_⟩) hHeld ?_
          · intro w hSw; try dsimp only at hSw
            go_simp
          try simp only [Act.put, List.getElem_toArray, List.getElem_cons_zero, List.getElem_cons_succ, List.setIfInBounds_toArray, List.set_cons_zero, List.set_cons_succ]
          refine wpAnyH_take (i := 11) (v := (.bool true)) rfl (by kernel_rfl) (by kernel_rfl) (by kernel_rfl) (fun _ _ _ h => h) (Or.inl ⟨by rfl, ?_⟩) hHeld ?_
          · intro w hSw; try dsimp only at hSw
            go_simp
          try simp only [Act.put, List.getElem_toArray, List.getElem_cons_zero, List.getElem_cons_succ, List.setIfInBounds_toArray, List.set_cons_zero, List.set_cons_succ]
          refine wpAnyH_take (i := 12) (v := (.bool true)) rfl (by kernel_rfl) (by kernel_rfl) (by kernel_rfl) (fun _ _ _ h => h) (Or.inl ⟨by rfl, ?_⟩) hHeld ?_
          · intro w hSw; try dsimp only at hSw
            go_simp
          try simp only [Act.put, List.getElem_toArray, List.getElem_cons_zero, List.getElem_cons_succ, List.setIfInBounds_toArray, List.set_cons_zero, List.set_cons_succ]
          refine wpAnyH_take (i := 13) (v := undef) rfl (by kernel_rfl) (by kernel_rfl) (by kernel_rfl) (fun _ _ _ h => h) (Or.inr ⟨by rfl, rfl⟩) hHeld ?_
          try simp only [Act.put, List.getElem_toArray, List.getElem_cons_zero, List.getElem_cons_succ, List.setIfInBounds_toArray, List.set_cons_zero, List.set_cons_succ]
          refine wpAnyH_take (i := 14) (v := undef) rfl (by kernel_rfl) (by kernel_rfl) (by kernel_rfl) (fun _ _ _ h => h) (Or.inr ⟨by rfl, rfl⟩) hHeld ?_
          try simp only [Act.put, List.getElem_toArray, List.getElem_cons_zero, List.getElem_cons_succ, List.setIfInBounds_toArray, List.set_cons_zero, List.set_cons_succ]
          refine wpAnyH_take (i := 15) (v := undef) rfl (by kernel_rfl) (by kernel_rfl) (by kernel_rfl) (fun _ _ _ h => h) (Or.inr ⟨by rfl, rfl⟩) hHeld ?_
          try simp only [Act.put, List.getElem_toArray, List.getElem_cons_zero, List.getElem_cons_succ, List.setIfInBounds_toArray, List.set_cons_zero, List.set_cons_succ]
          refine wpAnyH_take (i := 16) (v := undef) rfl (by kernel_rfl) (by kernel_rfl) (by kernel_rfl) (fun _ _ _ h => h) (Or.inr ⟨by rfl, rfl⟩) hHeld ?_
          try simp only [Act.put, List.getElem_toArray, List.getElem_cons_zero, List.getElem_cons_succ, List.setIfInBounds_toArray, List.set_cons_zero, List.set_cons_succ]
          refine wpAnyH_take (i := 17) (v := undef) rfl (by kernel_rfl) (by kernel_rfl) (by kernel_rfl) (fun _ _ _ h => h) (Or.inr ⟨by rfl, rfl⟩) hHeld ?_
          try simp only [Act.put, List.getElem_toArray, List.getElem_cons_zero, List.getElem_cons_succ, List.setIfInBounds_toArray, List.set_cons_zero, List.set_cons_succ]
          refine wpAnyH_take (i := 18) (v := undef) rfl (by kernel_rfl) (by kernel_rfl) (by kernel_rfl) (fun _ _ _ h => h) (Or.inr ⟨by rfl, rfl⟩) hHeld ?_
          try simp only [Act.put, List.getElem_toArray, List.getElem_cons_zero, List.getElem_cons_succ, List.setIfInBounds_toArray, List.set_cons_zero, List.set_cons_succ]
          refine wpAnyH_take (i := 19) (v := (.bool true)) rfl (by kernel_rfl) (by kernel_rfl) (by kernel_rfl) (fun _ _ _ h => h) (Or.inl ⟨by rfl, ?_⟩) hHeld ?_
          · intro w hSw; try dsimp only at hSw
            go_simp
          try simp only [Act.put, List.getElem_toArray, List.getElem_cons_zero, List.getElem_cons_succ, List.setIfInBounds_toArray, List.set_cons_zero, List.set_cons_succ]
          refine wpAnyH_take (i := 20) (v := (.bool true)) rfl (by kernel_rfl) (by kernel_rfl) (by kernel_rfl) (fun _ _ _ h => h) (Or.inl ⟨by rfl, ?_⟩) hHeld ?_
          · intro w hSw; try dsimp only at hSw
            go_simp
          try simp only [Act.put, List.getElem_toArray, List.getElem_cons_zero, List.getElem_cons_succ, List.setIfInBounds_toArray, List.set_cons_zero, List.set_cons_succ]
          refine wpAnyH_done (by kernel_rfl) ?_ _
          go_wp2_with fail
          go_meet
          exact ⟨by simp [HIO.out], hide ((below_drew w2).trans hb3)⟩
      case rest =>
      obtain ⟨rfl, hbx⟩ := hcut
      rename World => w3
      have HW3 := hide (HW2.out.below hbx.out)
      have HG3 := hide (HG2.out.step (Step.of_below F hbx.out))
      have S3 := hide (S2.out.trans (Step.of_below F hbx.out))
      have b1 := (B1.out.later hbx.out (by omega)).cells0
      have hs3 : w.heap.size + 1 < w3.heap.size := Nat.lt_of_lt_of_le hs2 hbx.out.size
      clear HW2 HG2 B1 B2 hbx n0 n1 n2 n3 x0 x1 x2 x3 S2 hs2
      obtain ⟨n0, n1, n2, n3⟩ := b1
      obtain ⟨k1, k2, vp, va, ev, k3, k4, k5, k6, k7, k8, k9⟩ := HW3.out
      obtain ⟨_, c4, c5, c6, c7, c8, c9, f5, f6, f7, f8, f9⟩ := k4.all
      by_cases hB : (false = false ∧ ¬ InOpen next x key) ∨ next ∈ avoid
      · have T : decide ((false = false ∧ ¬ InOpen next x key) ∨ next ∈ avoid) = true := decide_eq_true hB
        rw [T]
        rw [if_pos hB] at HA
        obtain ⟨q1, q2, q3, ⟨u, ⟨t, p, rfl⟩, hu⟩, _⟩ := HG3.out
        have hne0 : bw ≠ 0 := fun e => q1 (by rw [← e]; exact k1)
        have hw0 : 0 < w3.heap.size := by omega
        clear k3 k4 k5 k6 k7 k8 k9 hB T
        go_wp2
        go_ret
        rw [HA.out]
        exact ⟨_, F, rfl, .inr ⟨rfl, t, p, rfl⟩, HW3.out.setErr ⟨t, p, rfl⟩, S3.out.trans (step_set k1 9 _)⟩
      · have T : decide ((false = false ∧ ¬ InOpen next x key) ∨ next ∈ avoid) = false := decide_eq_false hB
        rw [T]
        rw [if_neg hB] at HA
        obtain ⟨g3, cap3, rfl, hg3, hcap3, hmax3, _, _⟩ := k5.last
        obtain ⟨wa, hwa⟩ : ∃ z, z = (w3.alloc (box next 27)).drew := ⟨_, rfl⟩
        have hba : Below w3.heap.size w3 wa := by rw [hwa]; exact ((Below.refl _ _).alloc (Nat.le_refl _) _).drew
        have P := hide (fun g n cap w2 hgr hr hfr => walk_push_path (x := next) (wa := wa) (w2 := w2) (g := g) (n := n) (cap := cap) k1 k2 k3 k4 k5 k6 k7 k8 k9 hba hgr hr hfr)
        have HR := hide (k5.below hba)
        have HKp := hide (show ∀ w2, wa.grownBy w2 (Value.slice (some ⟨g3, 0, none⟩) (path.length + 1) cap3).ownBlock → w2.heap[bw]? = w3.heap[bw]? from fun w2 hgr => (hgr.block bw (Nat.lt_of_lt_of_le k2 hba.size) (fun e => (k7 bw e.symm).2 rfl)).trans (hba.block bw k2))
        have HN := hide (show ∀ j, j < 4 → wa.cell? ((⟨w3.heap.size, 0, none⟩ : Addr).add j) = some (.int .u64 (lim next j)) from fun j hj => by
          rw [add_plain, hwa]
          have := idAt_new w3 next 27 j hj
          simpa using this)
        have hl : (path ++ [x]).length ≤ 1000000 := by simp; omega
        rw [hwa] at HR HN HKp P
        have HL := hide hl
        clear k3 k4 k5 k6 k7 k8 k9 hba hwa hB T HW3 hl
        go_wp2
        go_region_law (refine step_push rfl (.tmp 64) (.tmp 66) 41 rfl 27 i0 (.agg #[.int .u64 0, .int .u64 0, .int .u64 0, .int .u64 0]) Tryd.underlying41 hi hz0 hz1 hz2 rfl (.slice (some ⟨g3, 0, none⟩) (path.length + 1) cap3) (path ++ [x]) next (by simp [Act.eval]) HR.out HL.out ⟨w3.heap.size, 0, none⟩ 1 (by simp [Act.eval]) HN.out ?_; intro g cap2 w4 hr2 hg2 hfr2; have hk2 := HKp.out w4 hg2; have d5 := (World.cell?_of_block (a := ⟨bw, 5, none⟩) hk2).trans c5; have e5 := (World.frozen?_of_block (a := ⟨bw, 5, none⟩) hk2).trans f5; have d7 := (World.cell?_of_block (a := ⟨bw, 7, none⟩) hk2).trans c7; have e7 := (World.frozen?_of_block (a := ⟨bw, 7, none⟩) hk2).trans f7; rw [List.length_append] at hr2; have HF := hide (P.out g (path.length + 1 + 1) cap2 w4 hg2 hr2 hfr2); clear hr2 hg2 hfr2 hk2)
        all_goals
          go_wp2
          go_ret
          rw [HA.out]
          exact ⟨_, _, rfl, .inl ⟨rfl, rfl⟩, HF.out.1.setDone _, S3.out.trans (HF.out.2.trans (step_set HF.out.1.1 7 _))⟩
end Go.Proofs.Qxb6609340aDoor
