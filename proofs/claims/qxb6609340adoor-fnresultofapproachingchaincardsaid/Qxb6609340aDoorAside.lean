import Derived.Test.Qxb6609340aDoorWalker
namespace Go.Proofs.Qxb6609340aDoor
open Go.ChangeShapes Go.WideShapes Go.ChangeAt Go.RowKit
set_option linter.unusedVariables false

theorem Tryd.info27 : (Tryd.prog.info? 27).map (fun i => (i.zero, i.size, i.bytes)) = some (some (.agg #[.int .u64 0, .int .u64 0, .int .u64 0, .int .u64 0]), 4, 32) := by kernel_rfl

/-- The two sentinels: errors that are not nil, at the first two blocks, none of the walker's own. -/
def Glob (w : World) (F : Nat → Prop) : Prop := ¬ F 0 ∧ ¬ F 1 ∧ 1 < w.heap.size ∧ (∃ v, IsErr v ∧ w.cell? ⟨0, 0, none⟩ = some v) ∧ ∃ v, IsErr v ∧ w.cell? ⟨1, 0, none⟩ = some v
theorem Glob.step {w w' : World} {F F' : Nat → Prop} (h : Glob w F) (hs : Step w w' F F') : Glob w' F' := by
  obtain ⟨h1, h2, h3, ⟨v, h4, h5⟩, u, h6, h7⟩ := h
  exact ⟨fun h => h1 (hs.foot 0 (by omega) h), fun h => h2 (hs.foot 1 (by omega) h), Nat.lt_of_lt_of_le h3 hs.size, ⟨v, h4, (World.cell?_of_block (hs.block 0 (by omega) h1)).trans h5⟩, u, h6, (World.cell?_of_block (hs.block 1 h3 h2)).trans h7⟩

theorem Row.below {w w' : World} {v : Value} {ids : List Id} (h : Row w v ids) (hb : Below w.heap.size w w') : Row w' v ids := h.kept hb.size (fun g hg => hb.block g (h.lt hg))

theorem grown_step {w wa w2 : World} {F : Nat → Prop} {v : Value} {g : Nat} (hb : Below w.heap.size w wa) (hgr : wa.grownBy w2 v.ownBlock) (hF : ∀ k, v.ownBlock = some k → F k) (hfr : v.ownBlock = some g ∨ wa.heap.size ≤ g) : Step w w2 F (fun k => F k ∨ k = g) :=
  ⟨hgr.os.trans hb.os, hgr.tape.trans hb.tape, hgr.output.trans hb.output, Nat.le_trans hb.size hgr.size,
    fun k hk hn => (hgr.block k (Nat.lt_of_lt_of_le hk hb.size) (fun e => hn (hF k e.symm))).trans (hb.block k hk),
    fun k hk h => by
      rcases h with h | rfl
      · exact h
      · rcases hfr with h | h
        · exact hF _ h
        · have := hb.size; omega⟩

/-- One id more among those set aside. -/
theorem walk_push_avoid {w wa w2 : World} {F : Nat → Prop} {bw : Nat} {key x : Id} {path avoid : List Id} {done bad : Bool} {vp va ev : Value} {g n cap : Nat} (h1 : F bw) (h2 : bw < w.heap.size) (h3 : ErrIs bad ev) (h4 : WCells w bw (wcells key vp va done ev)) (h5 : Row w vp path) (h6 : Row w va avoid)
    (h7 : ∀ g, vp.ownBlock = some g → F g ∧ g ≠ bw) (h8 : ∀ g, va.ownBlock = some g → F g ∧ g ≠ bw) (h9 : ∀ g, vp.ownBlock = some g → va.ownBlock ≠ some g)
    (hb : Below w.heap.size w wa) (hgr : wa.grownBy w2 va.ownBlock) (hr : Row w2 (.slice (some ⟨g, 0, none⟩) n cap) (avoid ++ [x])) (hfr : va.ownBlock = some g ∨ wa.heap.size ≤ g) :
    Walk (w2.setCell ⟨bw, 6, none⟩ (.slice (some ⟨g, 0, none⟩) n cap)) (fun k => F k ∨ k = g) bw key path (avoid ++ [x]) done bad ∧ Step w (w2.setCell ⟨bw, 6, none⟩ (.slice (some ⟨g, 0, none⟩) n cap)) F (fun k => F k ∨ k = g) := by
  have st := grown_step hb hgr (fun k hk => (h8 k hk).1) hfr
  have same : ∀ k, k < w.heap.size → va.ownBlock ≠ some k → w2.heap[k]? = w.heap[k]? := fun k hk hn => (hgr.block k (Nat.lt_of_lt_of_le hk hb.size) (fun e => hn e.symm)).trans (hb.block k hk)
  have hbw := same bw h2 (fun e => (h8 bw e).2 rfl)
  have hgne : g ≠ bw := by
    rcases hfr with h | h
    · exact (h8 g h).2
    · have := hb.size; omega
  refine ⟨⟨.inl h1, by have := st.size; simp; omega, vp, .slice (some ⟨g, 0, none⟩) n cap, ev, h3, (h4.kept hbw).set 6 (by simp [wcells]) _, ?_, hr.set (fun g' hg' => by simp [Value.ownBlock] at hg'; omega) _, fun g' hg' => ⟨.inl (h7 g' hg').1, (h7 g' hg').2⟩, fun g' hg' => by simp [Value.ownBlock] at hg'; exact ⟨.inr hg'.symm, by omega⟩, fun g' hg' hc => ?_⟩, st.trans (step_set (F := fun k => F k ∨ k = g) (.inl h1) 6 _)⟩
  · exact (h5.kept st.size (fun g' hg' => same g' (h5.lt hg') (h9 g' hg'))).set (fun g' hg' => (h7 g' hg').2) _
  · simp [Value.ownBlock] at hc
    subst hc
    rcases hfr with h | h
    · exact h9 _ hg' h
    · have := h5.lt hg'
      have := hb.size
      omega

/-- One id more on the path. -/
theorem walk_push_path {w wa w2 : World} {F : Nat → Prop} {bw : Nat} {key x : Id} {path avoid : List Id} {done bad : Bool} {vp va ev : Value} {g n cap : Nat} (h1 : F bw) (h2 : bw < w.heap.size) (h3 : ErrIs bad ev) (h4 : WCells w bw (wcells key vp va done ev)) (h5 : Row w vp path) (h6 : Row w va avoid)
    (h7 : ∀ g, vp.ownBlock = some g → F g ∧ g ≠ bw) (h8 : ∀ g, va.ownBlock = some g → F g ∧ g ≠ bw) (h9 : ∀ g, vp.ownBlock = some g → va.ownBlock ≠ some g)
    (hb : Below w.heap.size w wa) (hgr : wa.grownBy w2 vp.ownBlock) (hr : Row w2 (.slice (some ⟨g, 0, none⟩) n cap) (path ++ [x])) (hfr : vp.ownBlock = some g ∨ wa.heap.size ≤ g) :
    Walk (w2.setCell ⟨bw, 5, none⟩ (.slice (some ⟨g, 0, none⟩) n cap)) (fun k => F k ∨ k = g) bw key (path ++ [x]) avoid done bad ∧ Step w (w2.setCell ⟨bw, 5, none⟩ (.slice (some ⟨g, 0, none⟩) n cap)) F (fun k => F k ∨ k = g) := by
  have st := grown_step hb hgr (fun k hk => (h7 k hk).1) hfr
  have same : ∀ k, k < w.heap.size → vp.ownBlock ≠ some k → w2.heap[k]? = w.heap[k]? := fun k hk hn => (hgr.block k (Nat.lt_of_lt_of_le hk hb.size) (fun e => hn e.symm)).trans (hb.block k hk)
  have hbw := same bw h2 (fun e => (h7 bw e).2 rfl)
  have hgne : g ≠ bw := by
    rcases hfr with h | h
    · exact (h7 g h).2
    · have := hb.size; omega
  refine ⟨⟨.inl h1, by have := st.size; simp; omega, .slice (some ⟨g, 0, none⟩) n cap, va, ev, h3, (h4.kept hbw).set 5 (by simp [wcells]) _, hr.set (fun g' hg' => by simp [Value.ownBlock] at hg'; omega) _, ?_, fun g' hg' => by simp [Value.ownBlock] at hg'; exact ⟨.inr hg'.symm, by omega⟩, fun g' hg' => ⟨.inl (h8 g' hg').1, (h8 g' hg').2⟩, fun g' hg' hc => ?_⟩, st.trans (step_set (F := fun k => F k ∨ k = g) (.inl h1) 5 _)⟩
  · exact (h6.kept st.size (fun g' hg' => same g' (h6.lt hg') (fun e => h9 g' e hg'))).set (fun g' hg' => (h8 g' hg').2) _
  · simp [Value.ownBlock] at hg'
    subst hg'
    rcases hfr with h | h
    · exact h9 _ h hc
    · have := h6.lt hc
      have := hb.size
      omega

/-- setAside where 32 are set aside already. -/
theorem aside_full (F : Nat → Prop) (bw : Nat) (key : Id) (path avoid : List Id) (x : Id) (done : Bool) (w : World) (h : Walk w F bw key path avoid done false) (hg : Glob w F) (hfull : avoid.length = 32) :
    Calls Tryd.prog 23 #[.pointer (some ⟨bw, 0, none⟩), idV x] w fun e w' => ∃ v, e = .returned v ∧ IsErr v ∧ Walk w' F bw key path avoid done true ∧ Step w w' F F := by
  have HW := hide h
  obtain ⟨h1, h2, vp, va, ev, h3, h4, h5, h6, h7, h8, h9⟩ := h
  obtain ⟨_, c4, c5, c6, c7, c8, c9, f5, f6, f7, f8, f9⟩ := h4.all
  obtain ⟨g1, g2, g3, _, u, ⟨t, p, rfl⟩, hu⟩ := hg
  obtain ⟨a, cap, rfl⟩ : ∃ a cap, va = .slice a 32 cap := by
    rcases h6 with ⟨_, h⟩ | ⟨g, cap, rfl, _⟩
    · rw [h] at hfull; simp at hfull
    · exact ⟨_, _, by rw [hfull]⟩
  have hne : bw ≠ 1 := fun e => g2 (by rw [← e]; exact h1)
  clear h4 h5 h6 h7 h8 h9 h3
  go_enter Tryd.func23, Tryd.ntmps23
  go_wp2
  refine bodyPost_ret (v := .iface t (.pointer (some p))) (by simp [results, Tryd.results23, go_sem]) rfl ⟨_, rfl, ⟨t, p, rfl⟩, ?_⟩
  have hA : Below (w.setCell ⟨bw, 9, none⟩ (.iface t (.pointer (some p)))).heap.size (w.setCell ⟨bw, 9, none⟩ (.iface t (.pointer (some p)))) ((w.setCell ⟨bw, 9, none⟩ (.iface t (.pointer (some p)))).alloc (box x 27)) := (Below.refl _ _).alloc (Nat.le_refl _) _
  exact ⟨(HW.out.setErr ⟨t, p, rfl⟩).below hA, (step_set h1 9 _).trans (Step.of_below F hA)⟩

theorem aside_room (F : Nat → Prop) (bw : Nat) (key : Id) (path avoid : List Id) (x : Id) (done : Bool) (w : World) (h : Walk w F bw key path avoid done false) (hlt : avoid.length < 32) :
    Calls Tryd.prog 23 #[.pointer (some ⟨bw, 0, none⟩), idV x] w fun e w' => ∃ F', e = .returned .nilIface ∧ Walk w' F' bw key path (avoid ++ [x]) done false ∧ Step w w' F F' := by
  have HW := hide h
  obtain ⟨i0, hi, hz0, hz1, hz2⟩ := info_parts Tryd.info27
  obtain ⟨h1, h2, vp, va, ev, h3, h4, h5, h6, h7, h8, h9⟩ := h
  obtain ⟨_, c4, c5, c6, c7, c8, c9, f5, f6, f7, f8, f9⟩ := h4.all
  have H6 := hide h6
  obtain ⟨a, cap, hva⟩ : ∃ a cap, va = .slice a avoid.length cap := by
    rcases h6 with ⟨h, h'⟩ | ⟨g, cap, h, _⟩
    · exact ⟨none, 0, by rw [h, h']; rfl⟩
    · exact ⟨_, _, h⟩
  subst hva
  obtain ⟨wa, hwa⟩ : ∃ z, z = ((w.alloc (box x 27)).alloc (box x 27)).drew := ⟨_, rfl⟩
  have hba : Below w.heap.size w wa := by rw [hwa]; exact (((Below.refl _ _).alloc (Nat.le_refl _) _).alloc (by simp) _).drew
  have P := hide (fun g n cap w2 hgr hr hfr => walk_push_avoid (x := x) (wa := wa) (w2 := w2) (g := g) (n := n) (cap := cap) h1 h2 h3 h4 h5 h6 h7 h8 h9 hba hgr hr hfr)
  have HR := hide (h6.below hba)
  have HK := hide (show ∀ w2, wa.grownBy w2 (Value.slice a avoid.length cap).ownBlock → w2.heap[bw]? = w.heap[bw]? from fun w2 hgr => (hgr.block bw (Nat.lt_of_lt_of_le h2 hba.size) (fun e => (h8 bw e.symm).2 rfl)).trans (hba.block bw h2))
  have HX := hide (show ∀ j, j < 4 → wa.cell? ((⟨w.heap.size + 1, 0, none⟩ : Addr).add j) = some (.int .u64 (lim x j)) from fun j hj => by
    rw [add_plain, hwa]
    have := idAt_new (w.alloc (box x 27)) x 27 j hj
    simpa using this)
  rw [hwa] at HR HX HK P
  clear h4 h5 h6 h7 h8 h9 h3 hba hwa HW
  go_enter Tryd.func23, Tryd.ntmps23
  go_wp2
  go_region_law (refine step_push rfl (.tmp 23) (.tmp 25) 41 rfl 27 i0 (.agg #[.int .u64 0, .int .u64 0, .int .u64 0, .int .u64 0]) Tryd.underlying41 hi hz0 hz1 hz2 rfl (.slice a avoid.length cap) avoid x (by simp [Act.eval]) HR.out (by omega) ⟨w.heap.size + 1, 0, none⟩ 1 (by simp [Act.eval]) HX.out ?_; intro g cap2 w2 hr2 hg2 hfr2; have hk2 := HK.out w2 hg2; have d6 := (World.cell?_of_block (a := ⟨bw, 6, none⟩) hk2).trans c6; have e6 := (World.frozen?_of_block (a := ⟨bw, 6, none⟩) hk2).trans f6; have HF := hide (P.out g _ cap2 w2 hg2 hr2 hfr2); clear hr2 hg2 hfr2 hk2)
  all_goals
    go_wp2
    go_ret
    exact ⟨_, rfl, HF.out⟩
end Go.Proofs.Qxb6609340aDoor
