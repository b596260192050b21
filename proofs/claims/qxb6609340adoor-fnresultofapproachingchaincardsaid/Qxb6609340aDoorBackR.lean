import Derived.Test.Qxb6609340aDoorBack
namespace Go.Proofs.Qxb6609340aDoor
open Go.ChangeShapes Go.WideShapes Go.ChangeAt Go.RowKit
set_option linter.unusedVariables false

set_option maxHeartbeats 1600000 in
theorem back_room (F : Nat → Prop) (bw : Nat) (key : Id) (path avoid : List Id) (x : Id) (w : World) (h : Walk w F bw key (path ++ [x]) avoid false false) (hg : Glob w F) (hlen : path.length ≤ 1000000) (hlt : avoid.length < 32) :
    Calls Tryd.prog 24 #[.pointer (some ⟨bw, 0, none⟩), .int .i64 1] w fun e w' => BackPost w F bw key path avoid x e w' := by
  have C := hide (fun W (hW : Below w.heap.size w W) => aside_room F bw key (path ++ [x]) avoid x false W (h.below hW) hlt)
  have HG := hide hg
  obtain ⟨h1, h2, vp, va, ev, h3, h4, h5, h6, h7, h8, h9⟩ := h
  obtain ⟨_, c4, c5, c6, c7, c8, c9, f5, f6, f7, f8, f9⟩ := h4.all
  obtain ⟨g, cap, rfl, hgl, hcap, _, hx, _⟩ := h5.last
  obtain ⟨x0, x1, x2, x3⟩ := hx.cellsAt
  have e1 : IntKind.i64.wrap (path.length : Int) = (path.length : Int) := IntWalk.i64_in _ (by omega)
  clear h4 h5 h6 h7 h8 h9 h3 hx hlt c4 c6 c7 c8 c9 f5 f6 f7 f8 f9 hg
  go_enter Tryd.func24, Tryd.ntmps24
  go_wp2_with fail
  refine wp_loop_rounds 2 ?_
  rw [rounds_succ]
  go_upto_region 3 with fail
  go_cut [5] from 8 to 40 (fun s wx => s = .nilIface ∧ ∃ F', Hid (Walk wx F' bw key (path ++ [x]) (avoid ++ [x]) false false) ∧ Hid (Step w wx F F'))
  case first =>
    go_region_with (go_at_call 23; refine (C.out _ (below_drew _)).mono ?_; rintro e w1 ⟨F', rfl, hw1, hs1⟩)
    all_goals
      go_wp2_with fail
      go_meet
      exact ⟨rfl, F', hide hw1, hide ((Step.of_below F (below_drew w)).trans hs1)⟩
  case rest =>
  obtain ⟨rfl, F', hw1, hs1⟩ := hcut
  rename World => w1
  clear c5 x0 x1 x2 x3 hgl hcap C
  have HGw := hide (HG.out.step hs1.out)
  obtain ⟨k1, k2, vp1, va1, ev1, k3, k4, k5, k6, k7, k8, k9⟩ := hw1.out
  obtain ⟨_, d4, d5, d6, d7, d8, d9, q5, q6, q7, q8, q9⟩ := k4.all
  obtain ⟨g1, cap1, rfl, hg1, hcap1, hmax1, _, k5'⟩ := k5.last
  have HC := hide (walk_cut k1 k2 k3 k4 k5' k6 k7 k8 k9)
  have HS := hide (step_set (w := w1) k1 5 (.slice (some ⟨g1, 0, none⟩) path.length cap1))
  obtain ⟨n1, n2, n3, _, u, ⟨t, p, rfl⟩, hu⟩ := HGw.out
  have hne : bw ≠ 1 := fun e => n2 (by rw [← e]; exact k1)
  rcases k3 with ⟨_, rfl⟩ | ⟨h, _⟩
  · clear k4 k5 k6 k7 k8 k9 k5'
    by_cases hp : path.length = 0
    · have HE := hide (show path.isEmpty = true from by cases path with | nil => rfl | cons a b => simp at hp)
      rw [hp] at HC HS
      go_wp2
      go_region
      go_wp2
      rw [rounds_succ]
      go_wp2
      refine bodyPost_ret (v := .iface t (.pointer (some p))) (by simp [results, Tryd.results24, go_sem]) rfl ⟨_, F', rfl, ?_, ?_, ?_⟩
      · rw [HE.out]
        exact .inr ⟨rfl, t, p, rfl⟩
      · rw [HE.out]
        exact (((HC.out.setDone false).setUnwind).setErr ⟨t, p, rfl⟩).below (below_drew _)
      · exact hs1.out.trans (HS.out.trans ((step_set k1 7 _).trans ((step_set k1 8 _).trans ((step_set k1 9 _).trans (Step.of_below F' (below_drew _))))))
    · have HE := hide (show path.isEmpty = false from by cases path with | nil => simp at hp | cons a b => rfl)
      by_cases hp1 : path.length = 1
      · rw [hp1] at HC HS
        go_wp2
        go_region
        go_wp2
        rw [rounds_succ]
        go_wp2
        refine bodyPost_ret (v := .nilIface) (by simp [results, Tryd.results24, go_sem]) rfl ⟨_, F', rfl, ?_, ?_, ?_⟩
        · rw [HE.out]
          exact .inl ⟨rfl, rfl⟩
        · rw [HE.out]
          exact ((HC.out.setDone false).setUnwind).below (below_drew _)
        · exact hs1.out.trans (HS.out.trans ((step_set k1 7 _).trans ((step_set k1 8 _).trans (Step.of_below F' (below_drew _)))))
      · go_wp2
        go_region
        go_wp2
        rw [rounds_succ]
        go_wp2
        refine bodyPost_ret (v := .nilIface) (by simp [results, Tryd.results24, go_sem]) rfl ⟨_, F', rfl, ?_, ?_, ?_⟩
        · rw [HE.out]
          exact .inl ⟨rfl, rfl⟩
        · rw [HE.out]
          exact ((HC.out.setDone false).setUnwind).below (below_drew _)
        · exact hs1.out.trans (HS.out.trans ((step_set k1 7 _).trans ((step_set k1 8 _).trans (Step.of_below F' (below_drew _)))))
  · simp at h
end Go.Proofs.Qxb6609340aDoor
