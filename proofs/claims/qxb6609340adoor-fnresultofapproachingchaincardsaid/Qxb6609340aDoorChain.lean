import Derived.Test.Qxb6609340aDoorLive
namespace Go.Proofs.Qxb6609340aDoor
open Go.ChangeShapes Go.WideShapes Go.ChangeAt Go.RowKit
set_option linter.unusedVariables false
set_option linter.unusedSimpArgs false

/-- The law's variable 'cur'. -/
def Cur (w : World) (cb : Nat) (x : Id) : Prop := IdAt w cb 0 x ∧ ∀ j, j < 4 → w.frozen? ⟨cb, j, none⟩ = false
theorem Cur.keep {w w' : World} {cb : Nat} {x : Id} (h : Cur w cb x) (hb : w'.heap[cb]? = w.heap[cb]?) : Cur w' cb x := by
  refine ⟨fun k hk => ?_, fun j hj => ?_⟩
  · rw [World.cell?_of_block (w := w) (a := ⟨cb, 0 + k, none⟩) hb]
    exact h.1 k hk
  · rw [World.frozen?_of_block (w := w) (a := ⟨cb, j, none⟩) hb]
    exact h.2 j hj

/-- 'cur = h'. -/
def put4 (w : World) (cb : Nat) (h : Id) : World := (((w.setCell ⟨cb, 0, none⟩ (.int .u64 h.a)).setCell ⟨cb, 1, none⟩ (.int .u64 h.b)).setCell ⟨cb, 2, none⟩ (.int .u64 h.c)).setCell ⟨cb, 3, none⟩ (.int .u64 h.d)
theorem put4_grown (w : World) (cb : Nat) (h : Id) : w.grownBy (put4 w cb h) (some cb) := by
  refine ⟨rfl, rfl, rfl, by simp [put4], fun k hk hn => ?_⟩
  have hne : k ≠ cb := fun e => hn (by rw [e])
  unfold put4
  rw [Below.heap_setCell _ ⟨cb, 3, none⟩ _ k hne, Below.heap_setCell _ ⟨cb, 2, none⟩ _ k hne, Below.heap_setCell _ ⟨cb, 1, none⟩ _ k hne, Below.heap_setCell _ ⟨cb, 0, none⟩ _ k hne]
theorem put4_cur {w : World} {cb : Nat} {x : Id} (hc : Cur w cb x) (h : Id) : Cur (put4 w cb h) cb h := by
  obtain ⟨h1, h2⟩ := hc
  have c0 := h1 0 (by omega)
  have c1 := h1 1 (by omega)
  have c2 := h1 2 (by omega)
  have c3 := h1 3 (by omega)
  have ne : ∀ i j : Nat, i ≠ j → (⟨cb, i, none⟩ : Addr) ≠ ⟨cb, j, none⟩ := fun i j hij e => hij (by injection e)
  have d0 : (w.setCell ⟨cb, 0, none⟩ (.int .u64 h.a)).cell? ⟨cb, 1, none⟩ = some (.int .u64 (lim x 1)) := by rw [World.cell?_setCell_other _ _ _ _ (ne 0 1 (by omega))]; exact c1
  have d1 : ((w.setCell ⟨cb, 0, none⟩ (.int .u64 h.a)).setCell ⟨cb, 1, none⟩ (.int .u64 h.b)).cell? ⟨cb, 2, none⟩ = some (.int .u64 (lim x 2)) := by rw [World.cell?_setCell_other _ _ _ _ (ne 1 2 (by omega)), World.cell?_setCell_other _ _ _ _ (ne 0 2 (by omega))]; exact c2
  have d2 : (((w.setCell ⟨cb, 0, none⟩ (.int .u64 h.a)).setCell ⟨cb, 1, none⟩ (.int .u64 h.b)).setCell ⟨cb, 2, none⟩ (.int .u64 h.c)).cell? ⟨cb, 3, none⟩ = some (.int .u64 (lim x 3)) := by rw [World.cell?_setCell_other _ _ _ _ (ne 2 3 (by omega)), World.cell?_setCell_other _ _ _ _ (ne 1 3 (by omega)), World.cell?_setCell_other _ _ _ _ (ne 0 3 (by omega))]; exact c3
  refine ⟨fun k hk => ?_, fun j hj => ?_⟩
  · unfold put4
    match k, hk with
    | 0, _ =>
      show World.cell? _ ⟨cb, 0, none⟩ = some (.int .u64 h.a)
      rw [World.cell?_setCell_other _ _ _ _ (ne 3 0 (by omega)), World.cell?_setCell_other _ _ _ _ (ne 2 0 (by omega)), World.cell?_setCell_other _ _ _ _ (ne 1 0 (by omega)), World.cell?_setCell_same _ _ _ c0]
    | 1, _ =>
      show World.cell? _ ⟨cb, 1, none⟩ = some (.int .u64 h.b)
      rw [World.cell?_setCell_other _ _ _ _ (ne 3 1 (by omega)), World.cell?_setCell_other _ _ _ _ (ne 2 1 (by omega)), World.cell?_setCell_same _ _ _ d0]
    | 2, _ =>
      show World.cell? _ ⟨cb, 2, none⟩ = some (.int .u64 h.c)
      rw [World.cell?_setCell_other _ _ _ _ (ne 3 2 (by omega)), World.cell?_setCell_same _ _ _ d1]
    | 3, _ =>
      show World.cell? _ ⟨cb, 3, none⟩ = some (.int .u64 h.d)
      rw [World.cell?_setCell_same _ _ _ d2]
  · unfold put4
    rw [World.frozen?_setCell, World.frozen?_setCell, World.frozen?_setCell, World.frozen?_setCell]
    exact h2 j hj

/-- The walker on its chain, the law's 'cur' at its last node. -/
def LiveD (w4 : World) (F0 : Nat → Prop) (bw cb : Nat) (key : Id) (w : World) (p : List Id) (x : Id) : Prop :=
  ∃ F, Step w4 w F0 F ∧ Glob w F ∧ (∀ j, F j → j < w.heap.size) ∧ Walk w F bw key (p ++ [x]) [] false false ∧ w4.heap.size ≤ cb ∧ cb < w.heap.size ∧ ¬ F cb ∧ Cur w cb x

theorem LiveD.below {w4 : World} {F0 : Nat → Prop} {bw cb : Nat} {key : Id} {w w' : World} {p : List Id} {x : Id} (h : LiveD w4 F0 bw cb key w p x) (hb : Below w.heap.size w w') : LiveD w4 F0 bw cb key w' p x := by
  obtain ⟨F, h1, h2, h3, h4, h5, h6, h7, h8⟩ := h
  exact ⟨F, h1.trans (Step.of_below F hb), h2.step (Step.of_below F hb), fun j hj => Nat.lt_of_lt_of_le (h3 j hj) hb.size, h4.below hb, h5, Nat.lt_of_lt_of_le h6 hb.size, h7, h8.keep (hb.block cb h6)⟩
theorem LiveD.under {w4 : World} {F0 : Nat → Prop} {bw cb : Nat} {key : Id} {w w3 : World} {p : List Id} {x : Id} (h : LiveD w4 F0 bw cb key w p x) (hb : Below w3.heap.size w3 w4) (hF : ∀ k, k < w3.heap.size → ¬ F0 k) : Below w3.heap.size w3 w := by
  obtain ⟨F, h1, _⟩ := h
  exact hb.trans (h1.below hb.size hF)

/-- One hop more: the walker has taken its step, the law has laid its 'cur'. -/
theorem LiveD.hop {w4 : World} {F0 F F' : Nat → Prop} {bw cb : Nat} {key : Id} {w w' : World} {p : List Id} {x y : Id} (h1 : Step w4 w F0 F) (h2 : Glob w F) (h5 : w4.heap.size ≤ cb) (h6 : cb < w.heap.size) (h7 : ¬ F cb) (h8 : Cur w cb x)
    (hs : Step w w' F F') (h4 : Holds w' F' bw key ⟨(p ++ [x]) ++ [y], [], false, false⟩) (h20 : 2 ≤ w4.heap.size) : LiveD w4 F0 bw cb key (put4 w' cb y) (p ++ [x]) y := by
  have hg := put4_grown w' cb y
  have st := hs.shrink
  have hn : ¬ (F' cb ∧ cb < w'.heap.size) := fun e => h7 (hs.foot cb h6 e.1)
  have hc : Cur w' cb x := h8.keep (hs.block cb h6 h7)
  refine ⟨fun k => F' k ∧ k < w'.heap.size, (h1.trans st).grown hg (fun k hk => ?_), (h2.step st).grown hg (fun k hk => ?_), fun j hj => Nat.lt_of_lt_of_le hj.2 hg.size, (Walk.shrink h4).outside hg.size (fun k hk hF => hg.block k hk (fun e => ?_)), h5, ?_, hn, put4_cur hc y⟩
  · cases hk
    exact h5
  · cases hk
    omega
  · cases e
    exact hn hF
  · exact Nat.lt_of_lt_of_le (Nat.lt_of_lt_of_le h6 hs.size) hg.size
end Go.Proofs.Qxb6609340aDoor
