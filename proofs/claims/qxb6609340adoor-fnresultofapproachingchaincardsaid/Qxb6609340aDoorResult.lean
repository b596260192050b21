import Derived.Test.Qxb6609340aDoorAside
import Derived.Deep.RegionHeld3
namespace Go.Proofs.Qxb6609340aDoor
open Go.ChangeShapes Go.WideShapes Go.ChangeAt Go.RowKit
set_option linter.unusedVariables false
set_option linter.unusedSimpArgs false

/-- Result's six values. -/
abbrev resV (vp : Value) (x : Id) (hops : Int) : Value := .agg #[vp, .int .u64 x.a, .int .u64 x.b, .int .u64 x.c, .int .u64 x.d, .int .i64 hops]

/-- Result of a walk that has named no owner. -/
theorem result_open (F : Nat → Prop) (bw : Nat) (key : Id) (path avoid : List Id) (bad : Bool) (w : World) (h : Walk w F bw key path avoid false bad) :
    Calls Tryd.prog 15 #[.pointer (some ⟨bw, 0, none⟩)] w fun e w' => ∃ vp, e = .returned (.agg #[vp, .int .u64 0, .int .u64 0, .int .u64 0, .int .u64 0, .int .i64 0]) ∧ Row w' vp path ∧ Below w.heap.size w w' := by
  obtain ⟨h1, h2, vp, va, ev, h3, h4, h5, h6, h7, h8, h9⟩ := h
  obtain ⟨_, c4, c5, c6, c7, c8, c9, f5, f6, f7, f8, f9⟩ := h4.all
  have H5 := hide h5
  obtain ⟨a, n, c, hvp⟩ : ∃ a n c, vp = .slice a n c := by
    rcases h5 with ⟨h, _⟩ | ⟨g, cap, h, _⟩
    · exact ⟨_, _, _, h⟩
    · exact ⟨_, _, _, h⟩
  subst hvp
  clear h3 h4 h5 h6 h7 h8 h9 c4 c6 c8 c9 f5 f6 f7 f8 f9
  go_enter Tryd.func15, Tryd.ntmps15
  go_wp2
  have hb := (Below.refl w.heap.size w).alloc (Nat.le_refl _) (.cells #[.slice a n c, .int .u64 0, .int .u64 0, .int .u64 0, .int .u64 0, .int .i64 0] 43)
  refine bodyPost_ret (v := .agg #[.slice a n c, .int .u64 0, .int .u64 0, .int .u64 0, .int .u64 0, .int .i64 0]) (by simp [results, Tryd.results15, go_sem]) rfl ⟨_, rfl, H5.out.below hb, hb⟩

/-- The hops of a path of n + 1 nodes. -/
def hopsOf (n : Nat) : Int := if (n : Int) + 1 - 2 < 0 then 0 else (n : Int) + 1 - 2
theorem hopsOf_zero : hopsOf 0 = 0 := by decide
theorem hopsOf_succ (n : Nat) : hopsOf (n + 1) = n := by unfold hopsOf; rw [if_neg (by omega)]; omega

def ResPost (x : Id) (path : List Id) (w : World) (e : Ending) (w' : World) : Prop := ∃ vp, e = .returned (.agg #[vp, .int .u64 x.a, .int .u64 x.b, .int .u64 x.c, .int .u64 x.d, .int .i64 (hopsOf path.length)]) ∧ Row w' vp (path ++ [x]) ∧ Below w.heap.size w w'

/-- Result of a walk that has named an owner. -/
theorem result_done (F : Nat → Prop) (bw : Nat) (key : Id) (path avoid : List Id) (x : Id) (bad : Bool) (w : World) (h : Walk w F bw key (path ++ [x]) avoid true bad) (hlen : path.length ≤ 1000000) :
    Calls Tryd.prog 15 #[.pointer (some ⟨bw, 0, none⟩)] w fun e w' => ResPost x path w e w' := by
  obtain ⟨h1, h2, vp, va, ev, h3, h4, h5, h6, h7, h8, h9⟩ := h
  obtain ⟨_, c4, c5, c6, c7, c8, c9, f5, f6, f7, f8, f9⟩ := h4.all
  have H5 := hide h5
  obtain ⟨g, cap, rfl, hg, hcap, _, hx, _⟩ := h5.last
  obtain ⟨x0, x1, x2, x3⟩ := hx.cellsAt
  have e1 : IntKind.i64.wrap (path.length : Int) = (path.length : Int) := IntWalk.i64_in _ (by omega)
  clear h3 h4 h5 h6 h7 h8 h9 f5 f6 f7 f8 f9 c4 c6 c8 c9 hx
  by_cases hneg : (path.length : Int) + 1 - 2 < 0
  · have hH : hopsOf path.length = 0 := by unfold hopsOf; rw [if_pos hneg]
    have HH := hide hH
    clear hH
    go_enter Tryd.func15, Tryd.ntmps15
    go_wp2
    go_region
    go_wp2
    have hb := ((Below.refl w.heap.size w).alloc (Nat.le_refl _) (.cells #[.slice (some ⟨g, 0, none⟩) (path.length + 1) cap, .int .u64 x.a, .int .u64 x.b, .int .u64 x.c, .int .u64 x.d, .int .i64 0] 43)).drew
    refine bodyPost_ret (v := .agg #[.slice (some ⟨g, 0, none⟩) (path.length + 1) cap, .int .u64 x.a, .int .u64 x.b, .int .u64 x.c, .int .u64 x.d, .int .i64 0]) (by simp [results, Tryd.results15, go_sem]) rfl ⟨_, by rw [HH.out], H5.out.below hb, hb⟩
  · have hH : hopsOf path.length = (path.length : Int) + 1 - 2 := by unfold hopsOf; rw [if_neg hneg]
    have HH := hide hH
    clear hH
    go_enter Tryd.func15, Tryd.ntmps15
    go_wp2
    go_region
    go_wp2
    have hb := ((Below.refl w.heap.size w).alloc (Nat.le_refl _) (.cells #[.slice (some ⟨g, 0, none⟩) (path.length + 1) cap, .int .u64 x.a, .int .u64 x.b, .int .u64 x.c, .int .u64 x.d, .int .i64 ((path.length : Int) + 1 - 2)] 43)).drew
    refine bodyPost_ret (v := .agg #[.slice (some ⟨g, 0, none⟩) (path.length + 1) cap, .int .u64 x.a, .int .u64 x.b, .int .u64 x.c, .int .u64 x.d, .int .i64 ((path.length : Int) + 1 - 2)]) (by simp [results, Tryd.results15, go_sem]) rfl ⟨_, by rw [HH.out], H5.out.below hb, hb⟩
end Go.Proofs.Qxb6609340aDoor
