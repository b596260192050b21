import Derived.Test.Qxb6609340aDoorAnswer
import Derived.Test.Qxb6609340aDoorLaw
namespace Go.Proofs.Qxb6609340aDoor
open Go.ChangeShapes Go.WideShapes Go.ChangeAt Go.RowKit
set_option linter.unusedVariables false
set_option linter.unusedSimpArgs false

/-- A row of the law's own: behind B, none of the walker's blocks. -/
def Own (B : Nat) (F : Nat → Prop) (w : World) (v : Value) (ids : List Id) : Prop := Row w v ids ∧ ∀ g, v.ownBlock = some g → B ≤ g ∧ ¬ F g

/-- The walker at s, the law's two rows at P and A; w5, F0: where all began. -/
def Live (w5 : World) (F0 : Nat → Prop) (bw : Nat) (key : Id) (w : World) (st av : Value) (s : St) (P A : List Id) : Prop :=
  ∃ F, Step w5 w F0 F ∧ Glob w F ∧ (∀ j, F j → j < w.heap.size) ∧ Holds w F bw key s ∧ Own w5.heap.size F w st P ∧ Own w5.heap.size F w av A ∧ ∀ g, st.ownBlock = some g → av.ownBlock ≠ some g

theorem Own.below {B : Nat} {F : Nat → Prop} {w w' : World} {v : Value} {ids : List Id} (h : Own B F w v ids) (hb : Below w.heap.size w w') : Own B F w' v ids := ⟨h.1.below hb, h.2⟩

theorem Live.below {w5 : World} {F0 : Nat → Prop} {bw : Nat} {key : Id} {w w' : World} {st av : Value} {s : St} {P A : List Id} (h : Live w5 F0 bw key w st av s P A) (hb : Below w.heap.size w w') : Live w5 F0 bw key w' st av s P A := by
  obtain ⟨F, h1, h2, h3, h4, h5, h6, h7⟩ := h
  exact ⟨F, h1.trans (Step.of_below F hb), h2.step (Step.of_below F hb), fun j hj => Nat.lt_of_lt_of_le (h3 j hj) hb.size, Walk.below h4 hb, h5.below hb, h6.below hb, h7⟩

theorem Own.step {B : Nat} {F F' : Nat → Prop} {w w' : World} {v : Value} {ids : List Id} (h : Own B F w v ids) (hs : Step w w' F F') : Own B F' w' v ids :=
  ⟨h.1.kept hs.size (fun g hg => hs.block g (h.1.lt hg) (h.2 g hg).2), fun g hg => ⟨(h.2 g hg).1, fun hF => (h.2 g hg).2 (hs.foot g (h.1.lt hg) hF)⟩⟩

/-- A walker's own blocks: those that are there. -/
theorem Walk.shrink {w : World} {F : Nat → Prop} {bw : Nat} {key : Id} {path avoid : List Id} {done bad : Bool} (h : Walk w F bw key path avoid done bad) : Walk w (fun k => F k ∧ k < w.heap.size) bw key path avoid done bad := by
  obtain ⟨h1, h2, vp, va, ev, h3, h4, h5, h6, h7, h8, h9⟩ := h
  exact ⟨⟨h1, h2⟩, h2, vp, va, ev, h3, h4, h5, h6, fun g hg => ⟨⟨(h7 g hg).1, h5.lt hg⟩, (h7 g hg).2⟩, fun g hg => ⟨⟨(h8 g hg).1, h6.lt hg⟩, (h8 g hg).2⟩, h9⟩
theorem Step.shrink {w w' : World} {F F' : Nat → Prop} (h : Step w w' F F') : Step w w' F (fun k => F' k ∧ k < w'.heap.size) := ⟨h.os, h.tape, h.output, h.size, h.block, fun k hk hF => h.foot k hk hF.1⟩

/-- The walker has taken a step. -/
theorem Live.step {w5 : World} {F0 F F' : Nat → Prop} {bw : Nat} {key : Id} {w w' : World} {st av : Value} {s : St} {P A : List Id} (h1 : Step w5 w F0 F) (h2 : Glob w F) (h5 : Own w5.heap.size F w st P) (h6 : Own w5.heap.size F w av A) (h7 : ∀ g, st.ownBlock = some g → av.ownBlock ≠ some g)
    (hs : Step w w' F F') (h4 : Holds w' F' bw key s) : Live w5 F0 bw key w' st av s P A :=
  ⟨fun k => F' k ∧ k < w'.heap.size, h1.trans hs.shrink, h2.step hs.shrink, fun j hj => hj.2, Walk.shrink h4, h5.step hs.shrink, h6.step hs.shrink, h7⟩

theorem Step.grown {w5 w w' : World} {F0 F : Nat → Prop} {row : Option Nat} (h : Step w5 w F0 F) (hg : w.grownBy w' row) (hr : ∀ g, row = some g → w5.heap.size ≤ g) : Step w5 w' F0 F :=
  ⟨hg.os.trans h.os, hg.tape.trans h.tape, hg.output.trans h.output, Nat.le_trans h.size hg.size, fun k hk hF => (hg.block k (Nat.lt_of_lt_of_le hk h.size) (fun e => by have := hr k e.symm; omega)).trans (h.block k hk hF), h.foot⟩
theorem Glob.grown {w w' : World} {F : Nat → Prop} {row : Option Nat} (h : Glob w F) (hg : w.grownBy w' row) (hr : ∀ g, row = some g → 2 ≤ g) : Glob w' F := by
  obtain ⟨h1, h2, h3, ⟨v, h4, h5⟩, u, h6, h7⟩ := h
  exact ⟨h1, h2, Nat.lt_of_lt_of_le h3 hg.size, ⟨v, h4, (World.cell?_of_block (hg.block 0 (by omega) (fun e => by have := hr 0 e.symm; omega))).trans h5⟩, u, h6, (World.cell?_of_block (hg.block 1 h3 (fun e => by have := hr 1 e.symm; omega))).trans h7⟩
theorem Row.grown {w w' : World} {v : Value} {ids : List Id} {row : Option Nat} (h : Row w v ids) (hg : w.grownBy w' row) (hr : ∀ g, v.ownBlock = some g → row ≠ some g) : Row w' v ids :=
  h.kept hg.size (fun g hv => hg.block g (h.lt hv) (fun e => hr g hv e.symm))

/-- 'append' to the law's first row. -/
theorem Live.pushStack {w5 : World} {F0 : Nat → Prop} {bw : Nat} {key : Id} {w w' : World} {st av : Value} {s : St} {P A : List Id} {y : Id} {g cap : Nat} (h : Live w5 F0 bw key w st av s P A) (h2' : 2 ≤ w5.heap.size) (hr : Row w' (.slice (some ⟨g, 0, none⟩) (P.length + 1) cap) (P ++ [y])) (hg : w.grownBy w' st.ownBlock) (hfr : st.ownBlock = some g ∨ w.heap.size ≤ g) :
    Live w5 F0 bw key w' (.slice (some ⟨g, 0, none⟩) (P.length + 1) cap) av s (P ++ [y]) A := by
  obtain ⟨F, h1, h2, h3, h4, h5, h6, h7⟩ := h
  have hge : w5.heap.size ≤ g ∧ ¬ F g := by
    rcases hfr with e | e
    · exact h5.2 g e
    · exact ⟨Nat.le_trans h1.size e, fun hF => by have := h3 g hF; omega⟩
  refine ⟨F, h1.grown hg (fun k hk => (h5.2 k hk).1), h2.grown hg (fun k hk => by have := (h5.2 k hk).1; omega), fun j hj => Nat.lt_of_lt_of_le (h3 j hj) hg.size, Walk.outside h4 hg.size (fun k hk hF => hg.block k hk (fun e => (h5.2 k e.symm).2 hF)), ⟨hr, fun k hk => ?_⟩, ⟨h6.1.grown hg (fun k hk e => h7 k e hk), h6.2⟩, fun k hk e => ?_⟩
  · simp [Value.ownBlock] at hk
    subst hk
    exact hge
  · simp [Value.ownBlock] at hk
    subst hk
    rcases hfr with h | h
    · exact h7 _ h e
    · have := h6.1.lt e
      omega

/-- 'append' to the law's second row. -/
theorem Live.pushAvoid {w5 : World} {F0 : Nat → Prop} {bw : Nat} {key : Id} {w w' : World} {st av : Value} {s : St} {P A : List Id} {y : Id} {g cap : Nat} (h : Live w5 F0 bw key w st av s P A) (h2' : 2 ≤ w5.heap.size) (hr : Row w' (.slice (some ⟨g, 0, none⟩) (A.length + 1) cap) (A ++ [y])) (hg : w.grownBy w' av.ownBlock) (hfr : av.ownBlock = some g ∨ w.heap.size ≤ g) :
    Live w5 F0 bw key w' st (.slice (some ⟨g, 0, none⟩) (A.length + 1) cap) s P (A ++ [y]) := by
  obtain ⟨F, h1, h2, h3, h4, h5, h6, h7⟩ := h
  have hge : w5.heap.size ≤ g ∧ ¬ F g := by
    rcases hfr with e | e
    · exact h6.2 g e
    · exact ⟨Nat.le_trans h1.size e, fun hF => by have := h3 g hF; omega⟩
  refine ⟨F, h1.grown hg (fun k hk => (h6.2 k hk).1), h2.grown hg (fun k hk => by have := (h6.2 k hk).1; omega), fun j hj => Nat.lt_of_lt_of_le (h3 j hj) hg.size, Walk.outside h4 hg.size (fun k hk hF => hg.block k hk (fun e => (h6.2 k e.symm).2 hF)), ⟨h5.1.grown hg (fun k hk e => h7 k hk e), h5.2⟩, ⟨hr, fun k hk => ?_⟩, fun k hk e => ?_⟩
  · simp [Value.ownBlock] at hk
    subst hk
    exact hge
  · simp [Value.ownBlock] at e
    subst e
    rcases hfr with h | h
    · exact h7 _ hk h
    · have := h5.1.lt hk
      omega

/-- 'stack = stack[:len(stack)-1]'. -/
theorem Live.cutStack {w5 : World} {F0 : Nat → Prop} {bw : Nat} {key : Id} {w : World} {av : Value} {s : St} {p A : List Id} {x : Id} {g n cap : Nat} (h : Live w5 F0 bw key w (.slice (some ⟨g, 0, none⟩) n cap) av s (p ++ [x]) A) : Live w5 F0 bw key w (.slice (some ⟨g, 0, none⟩) p.length cap) av s p A := by
  obtain ⟨F, h1, h2, h3, h4, h5, h6, h7⟩ := h
  obtain ⟨g', cap', he, _, _, _, _, hr⟩ := h5.1.last
  simp at he
  obtain ⟨rfl, _, rfl⟩ := he
  exact ⟨F, h1, h2, h3, h4, ⟨hr, fun k hk => h5.2 k hk⟩, h6, fun k hk => h7 k hk⟩

/-- Where the slots stand. -/
theorem Live.rows {w5 : World} {F0 : Nat → Prop} {bw : Nat} {key : Id} {w : World} {st av : Value} {s : St} {P A : List Id} (h : Live w5 F0 bw key w st av s P A) : Row w st P ∧ Row w av A := by
  obtain ⟨F, h1, h2, h3, h4, h5, h6, h7⟩ := h
  exact ⟨h5.1, h6.1⟩
theorem Live.keeps {w5 : World} {F0 : Nat → Prop} {bw : Nat} {key : Id} {w : World} {st av : Value} {s : St} {P A : List Id} (h : Live w5 F0 bw key w st av s P A) {b : Nat} (hb : b < w5.heap.size) (hF : ¬ F0 b) : w.heap[b]? = w5.heap[b]? := by
  obtain ⟨F, h1, _⟩ := h
  exact h1.block b hb hF
theorem Live.size {w5 : World} {F0 : Nat → Prop} {bw : Nat} {key : Id} {w : World} {st av : Value} {s : St} {P A : List Id} (h : Live w5 F0 bw key w st av s P A) : w5.heap.size ≤ w.heap.size := by
  obtain ⟨F, h1, _⟩ := h
  exact h1.size
theorem Live.under {w5 : World} {F0 : Nat → Prop} {bw : Nat} {key : Id} {w w3 : World} {st av : Value} {s : St} {P A : List Id} (h : Live w5 F0 bw key w st av s P A) (hb : Below w3.heap.size w3 w5) (hF : ∀ k, k < w3.heap.size → ¬ F0 k) : Below w3.heap.size w3 w := by
  obtain ⟨F, h1, _⟩ := h
  exact hb.trans (h1.below hb.size hF)

/-- A slice of bools that came in. -/
def Bools (w : World) (B : Nat) (v : Value) (bs : List Bool) : Prop := ∃ a c, v = .slice a bs.length c ∧ ∀ (k : Nat) x, bs[k]? = some x → ∃ b off, a = some ⟨b, off, none⟩ ∧ b < B ∧ w.cell? ⟨b, off + k, none⟩ = some (.bool x)
theorem Bools.later {w w' : World} {B B' : Nat} {v : Value} {bs : List Bool} (h : Bools w B v bs) (hb : Below B w w') (hB : B ≤ B') : Bools w' B' v bs := by
  obtain ⟨a, c, rfl, h⟩ := h
  refine ⟨a, c, rfl, fun k x hk => ?_⟩
  obtain ⟨b, off, rfl, hlt, hi⟩ := h k x hk
  exact ⟨b, off, rfl, by omega, (hb.cell (p := ⟨b, off + k, none⟩) hlt).trans hi⟩
end Go.Proofs.Qxb6609340aDoor
