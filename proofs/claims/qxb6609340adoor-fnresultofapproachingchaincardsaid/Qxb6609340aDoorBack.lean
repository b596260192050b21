import Derived.Test.Qxb6609340aDoorAside
import Derived.Deep.CutRange
namespace Go.Proofs.Qxb6609340aDoor
open Go.ChangeShapes Go.WideShapes Go.ChangeAt Go.RowKit
set_option linter.unusedVariables false

theorem below_drew (w : World) : Below w.heap.size w w.drew := (Below.refl _ _).drew

set_option maxHeartbeats 800000 in
theorem back_full (F : Nat → Prop) (bw : Nat) (key : Id) (path avoid : List Id) (x : Id) (w : World) (h : Walk w F bw key (path ++ [x]) avoid false false) (hg : Glob w F) (hlen : path.length ≤ 1000000) (hfull : avoid.length = 32) :
    Calls Tryd.prog 24 #[.pointer (some ⟨bw, 0, none⟩), .int .i64 1] w fun e w' => ∃ v, e = .returned v ∧ IsErr v ∧ Walk w' F bw key (path ++ [x]) avoid false true ∧ Step w w' F F := by
  have C := hide (fun W (hW : Below w.heap.size w W) => aside_full F bw key (path ++ [x]) avoid x false W (h.below hW) (hg.step (Step.of_below F hW)) hfull)
  obtain ⟨h1, h2, vp, va, ev, h3, h4, h5, h6, h7, h8, h9⟩ := h
  obtain ⟨_, c4, c5, c6, c7, c8, c9, f5, f6, f7, f8, f9⟩ := h4.all
  obtain ⟨g, cap, rfl, hgl, hcap, _, hx, _⟩ := h5.last
  obtain ⟨x0, x1, x2, x3⟩ := hx.cellsAt
  have e1 : IntKind.i64.wrap (path.length : Int) = (path.length : Int) := IntWalk.i64_in _ (by omega)
  clear h4 h5 h6 h7 h8 h9 h3 hx hfull c4 c6 c7 c8 c9 f5 f6 f7 f8 f9
  go_enter Tryd.func24, Tryd.ntmps24
  go_wp2_with fail
  refine wp_loop_rounds 2 ?_
  rw [rounds_succ]
  go_wp2_with fail
  go_region_with (go_at_call 23; refine (C.out _ (below_drew _)).mono ?_; rintro e w1 ⟨v, rfl, ⟨t, p, rfl⟩, hw1, hs1⟩)
  all_goals
    have HF := hide (And.intro hw1 ((Step.of_below F (below_drew w)).trans hs1))
    clear hw1 hs1
    go_wp2
    go_ret
    exact ⟨_, rfl, ⟨t, p, rfl⟩, HF.out⟩

theorem walk_cut {w : World} {F : Nat → Prop} {bw : Nat} {key : Id} {path avoid : List Id} {done bad : Bool} {va ev : Value} {g cap : Nat} (h1 : F bw) (h2 : bw < w.heap.size) (h3 : ErrIs bad ev) (h4 : WCells w bw (wcells key (.slice (some ⟨g, 0, none⟩) (path.length + 1) cap) va done ev)) (h5 : Row w (.slice (some ⟨g, 0, none⟩) path.length cap) path) (h6 : Row w va avoid)
    (h7 : ∀ g', (Value.slice (some ⟨g, 0, none⟩) (path.length + 1) cap).ownBlock = some g' → F g' ∧ g' ≠ bw) (h8 : ∀ g, va.ownBlock = some g → F g ∧ g ≠ bw) (h9 : ∀ g', (Value.slice (some ⟨g, 0, none⟩) (path.length + 1) cap).ownBlock = some g' → va.ownBlock ≠ some g') :
    Walk (w.setCell ⟨bw, 5, none⟩ (.slice (some ⟨g, 0, none⟩) path.length cap)) F bw key path avoid done bad :=
  ⟨h1, by simpa using h2, _, va, ev, h3, h4.set 5 (by simp [wcells]) _, h5.set (fun g' hg' => (h7 g' hg').2) _, h6.set (fun g' hg' => (h8 g' hg').2) _, h7, h8, h9⟩

/-- What 'back' leaves where there was room. -/
def BackPost (w : World) (F : Nat → Prop) (bw : Nat) (key : Id) (path avoid : List Id) (x : Id) (e : Ending) (w' : World) : Prop :=
  ∃ v F', e = .returned v ∧ ErrIs path.isEmpty v ∧ Walk w' F' bw key path (avoid ++ [x]) false path.isEmpty ∧ Step w w' F F'

end Go.Proofs.Qxb6609340aDoor
