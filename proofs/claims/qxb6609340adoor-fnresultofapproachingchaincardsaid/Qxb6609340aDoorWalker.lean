import Derived.Test.Qxb6609340aDoorRow
import Derived.Test.Qxb6609340aDoorEq
namespace Go.Proofs.Qxb6609340aDoor
open Go.ChangeShapes Go.WideShapes Go.ChangeAt Go.RowKit
set_option linter.unusedVariables false

/-- An error that is not nil. -/
def IsErr (v : Value) : Prop := ∃ t p, v = .iface t (.pointer (some p))
/-- 'bad': whether the error is there. -/
def ErrIs (bad : Bool) (v : Value) : Prop := (bad = false ∧ v = .nilIface) ∨ (bad = true ∧ IsErr v)

/-- The walker's ten cells. -/
def wcells (key : Id) (vp va : Value) (done : Bool) (ev : Value) : List Value := [.int .u64 key.a, .int .u64 key.b, .int .u64 key.c, .int .u64 key.d, .nilIface, vp, va, .bool done, .int .i64 0, ev]
def WCells (w : World) (bw : Nat) (cs : List Value) : Prop := ∀ j u, cs[j]? = some u → w.cell? ⟨bw, j, none⟩ = some u ∧ w.frozen? ⟨bw, j, none⟩ = false

/-- A walker at block bw; F: the blocks that are its own. -/
def Walk (w : World) (F : Nat → Prop) (bw : Nat) (key : Id) (path avoid : List Id) (done bad : Bool) : Prop :=
  F bw ∧ bw < w.heap.size ∧ ∃ vp va ev, ErrIs bad ev ∧ WCells w bw (wcells key vp va done ev) ∧ Row w vp path ∧ Row w va avoid ∧
    (∀ g, vp.ownBlock = some g → F g ∧ g ≠ bw) ∧ (∀ g, va.ownBlock = some g → F g ∧ g ≠ bw) ∧ (∀ g, vp.ownBlock = some g → va.ownBlock ≠ some g)

/-- What a step of the walker leaves alone. -/
structure Step (w w' : World) (F F' : Nat → Prop) : Prop where
  os : w'.os = w.os
  tape : w'.tape = w.tape
  output : w'.output = w.output
  size : w.heap.size ≤ w'.heap.size
  block : ∀ k, k < w.heap.size → ¬ F k → w'.heap[k]? = w.heap[k]?
  foot : ∀ k, k < w.heap.size → F' k → F k

theorem Step.trans {a b c : World} {F F' F'' : Nat → Prop} (h : Step a b F F') (k : Step b c F' F'') : Step a c F F'' :=
  ⟨k.os.trans h.os, k.tape.trans h.tape, k.output.trans h.output, Nat.le_trans h.size k.size,
    fun i hi hF => (k.block i (Nat.lt_of_lt_of_le hi h.size) (fun h' => hF (h.foot i hi h'))).trans (h.block i hi hF),
    fun i hi hF => h.foot i hi (k.foot i (Nat.lt_of_lt_of_le hi h.size) hF)⟩
theorem Step.of_below {w w' : World} (F : Nat → Prop) (h : Below w.heap.size w w') : Step w w' F F := ⟨h.os, h.tape, h.output, h.size, fun k hk _ => h.block k hk, fun _ _ h => h⟩
theorem Step.below {w w' : World} {F F' : Nat → Prop} {B : Nat} (h : Step w w' F F') (hB : B ≤ w.heap.size) (hF : ∀ k, k < B → ¬ F k) : Below B w w' :=
  ⟨h.os, h.tape, h.output, h.size, fun k hk => h.block k (by omega) (hF k hk)⟩

theorem WCells.kept {w w' : World} {bw : Nat} {cs : List Value} (h : WCells w bw cs) (hb : w'.heap[bw]? = w.heap[bw]?) : WCells w' bw cs := by
  intro j u hu
  rw [World.cell?_of_block (w := w) (a := ⟨bw, j, none⟩) hb, World.frozen?_of_block (w := w) (a := ⟨bw, j, none⟩) hb]
  exact h j u hu

theorem Walk.below {w w' : World} {F : Nat → Prop} {bw : Nat} {key : Id} {path avoid : List Id} {done bad : Bool} (h : Walk w F bw key path avoid done bad) (hb : Below w.heap.size w w') : Walk w' F bw key path avoid done bad := by
  obtain ⟨h1, h2, vp, va, ev, h3, h4, h5, h6, h7, h8, h9⟩ := h
  have own : ∀ {v ids}, Row w v ids → ∀ g, v.ownBlock = some g → w'.heap[g]? = w.heap[g]? := by
    intro v ids hr g hg
    rcases hr with ⟨rfl, _⟩ | ⟨g', cap, rfl, hlt, _⟩
    · simp [Value.ownBlock] at hg
    · simp [Value.ownBlock] at hg
      subst hg
      exact hb.block _ hlt
  exact ⟨h1, Nat.lt_of_lt_of_le h2 hb.size, vp, va, ev, h3, h4.kept (hb.block bw h2), h5.kept hb.size (own h5), h6.kept hb.size (own h6), h7, h8, h9⟩

theorem WCells.all {w : World} {bw : Nat} {key : Id} {vp va : Value} {done : Bool} {ev : Value} (h : WCells w bw (wcells key vp va done ev)) :
    (w.cell? ⟨bw, 0, none⟩ = some (.int .u64 key.a) ∧ w.cell? ⟨bw, 1, none⟩ = some (.int .u64 key.b) ∧ w.cell? ⟨bw, 2, none⟩ = some (.int .u64 key.c) ∧ w.cell? ⟨bw, 3, none⟩ = some (.int .u64 key.d)) ∧
    w.cell? ⟨bw, 4, none⟩ = some .nilIface ∧ w.cell? ⟨bw, 5, none⟩ = some vp ∧ w.cell? ⟨bw, 6, none⟩ = some va ∧ w.cell? ⟨bw, 7, none⟩ = some (.bool done) ∧ w.cell? ⟨bw, 8, none⟩ = some (.int .i64 0) ∧ w.cell? ⟨bw, 9, none⟩ = some ev ∧
    (w.frozen? ⟨bw, 5, none⟩ = false ∧ w.frozen? ⟨bw, 6, none⟩ = false ∧ w.frozen? ⟨bw, 7, none⟩ = false ∧ w.frozen? ⟨bw, 8, none⟩ = false ∧ w.frozen? ⟨bw, 9, none⟩ = false) :=
  ⟨⟨(h 0 _ rfl).1, (h 1 _ rfl).1, (h 2 _ rfl).1, (h 3 _ rfl).1⟩, (h 4 _ rfl).1, (h 5 _ rfl).1, (h 6 _ rfl).1, (h 7 _ rfl).1, (h 8 _ rfl).1, (h 9 _ rfl).1, (h 5 _ rfl).2, (h 6 _ rfl).2, (h 7 _ rfl).2, (h 8 _ rfl).2, (h 9 _ rfl).2⟩

/-- BeginAt: a walker at its start. -/
theorem beginAt_any (start key : Id) (w : World) :
    Calls Tryd.prog 7 #[idV start, idV key] w fun e w' => ∃ bw F, e = .returned (.pointer (some ⟨bw, 0, none⟩)) ∧ Walk w' F bw key [start] [] false false ∧ Below w.heap.size w w' ∧ ∀ k, k < w.heap.size → ¬ F k := by
  go_enter Tryd.func7, Tryd.ntmps7
  go_wp2
  refine bodyPost_ret (v := .pointer (some ⟨w.heap.size + 1 + 1 + 1, 0, none⟩)) (by simp [results, Tryd.results7, go_sem]) rfl ⟨w.heap.size + 1 + 1 + 1, fun k => w.heap.size ≤ k, rfl, ?_, ?_, fun k hk h => by omega⟩
  · refine ⟨by omega, by simp, .slice (some ⟨w.heap.size + 1 + 1, 0, none⟩) 1 1, .slice none 0 0, .nilIface, .inl ⟨rfl, rfl⟩, ?_, ?_, Row.nil _, ?_, ?_, ?_⟩
    · intro j u hu
      match j, hu with
      | 0, hu => simp [wcells] at hu; subst hu; exact ⟨by go_simp, by go_simp⟩
      | 1, hu => simp [wcells] at hu; subst hu; exact ⟨by go_simp, by go_simp⟩
      | 2, hu => simp [wcells] at hu; subst hu; exact ⟨by go_simp, by go_simp⟩
      | 3, hu => simp [wcells] at hu; subst hu; exact ⟨by go_simp, by go_simp⟩
      | 4, hu => simp [wcells] at hu; subst hu; exact ⟨by go_simp, by go_simp⟩
      | 5, hu => simp [wcells] at hu; subst hu; exact ⟨by go_simp, by go_simp⟩
      | 6, hu => simp [wcells] at hu; subst hu; exact ⟨by go_simp, by go_simp⟩
      | 7, hu => simp [wcells] at hu; subst hu; exact ⟨by go_simp, by go_simp⟩
      | 8, hu => simp [wcells] at hu; subst hu; exact ⟨by go_simp, by go_simp⟩
      | 9, hu => simp [wcells] at hu; subst hu; exact ⟨by go_simp, by go_simp⟩
      | n + 10, hu => simp [wcells] at hu
    · refine .inr ⟨w.heap.size + 1 + 1, 1, rfl, by simp, by simp, by unfold maxLen; omega, fun j hj => ?_, fun k x hk => ?_⟩
      · match j, hj with
        | 0, _ => exact ⟨by go_simp, by go_simp⟩
        | 1, _ => exact ⟨by go_simp, by go_simp⟩
        | 2, _ => exact ⟨by go_simp, by go_simp⟩
        | 3, _ => exact ⟨by go_simp, by go_simp⟩
      · match k, hk with
        | 0, hk =>
          simp at hk
          subst hk
          have h := (idAt_new ((w.alloc (box start 27)).alloc (box key 27)) start 27).alloc (by simp) (.cells #[.int .u64 key.a, .int .u64 key.b, .int .u64 key.c, .int .u64 key.d, .nilIface, .slice (some ⟨w.heap.size + 1 + 1, 0, none⟩) 1 1, .slice none 0 0, .bool false, .int .i64 0, .nilIface] 50)
          simpa using h
        | k + 1, hk => simp at hk
    · intro g hg
      simp [Value.ownBlock] at hg
      omega
    · intro g hg
      simp [Value.ownBlock] at hg
    · intro g hg
      simp [Value.ownBlock]
  · exact ((((Below.refl _ _).alloc (Nat.le_refl _) _).alloc (by simp) _).alloc (by simp; omega) _).alloc (by simp; omega) _

theorem next_over (F : Nat → Prop) (bw : Nat) (key : Id) (path avoid : List Id) (done bad : Bool) (w : World) (h : Walk w F bw key path avoid done bad) (hov : (done || bad) = true) :
    Calls Tryd.prog 9 #[.pointer (some ⟨bw, 0, none⟩)] w fun e w' => e = .returned (.tuple #[idV zero, .bool false]) ∧ Below w.heap.size w w' := by
  obtain ⟨h1, h2, vp, va, ev, h3, h4, h5, h6, h7, h8, h9⟩ := h
  obtain ⟨_, c4, c5, c6, c7, c8, c9, f5, f6, f7, f8, f9⟩ := h4.all
  clear h4 h5 h6 h7 h8 h9 f5 f6 f7 f8 f9 c4 c5 c6 c8
  cases done
  · rcases h3 with ⟨rfl, _⟩ | ⟨rfl, t, p, rfl⟩
    · simp at hov
    · go_enter Tryd.func9, Tryd.ntmps9
      go_wp2
      refine bodyPost_ret (v := .tuple #[idV zero, .bool false]) (by simp [results, Tryd.results9, go_sem, zero]) rfl ⟨rfl, ?_⟩
      exact (Below.refl _ _).alloc (Nat.le_refl _) _
  · go_enter Tryd.func9, Tryd.ntmps9
    go_wp2
    refine bodyPost_ret (v := .tuple #[idV zero, .bool false]) (by simp [results, Tryd.results9, go_sem, zero]) rfl ⟨rfl, ?_⟩
    exact (Below.refl _ _).alloc (Nat.le_refl _) _

theorem next_on (F : Nat → Prop) (bw : Nat) (key : Id) (path avoid : List Id) (x : Id) (w : World) (h : Walk w F bw key (path ++ [x]) avoid false false) (hlen : path.length ≤ 1000000) :
    Calls Tryd.prog 9 #[.pointer (some ⟨bw, 0, none⟩)] w fun e w' => e = .returned (.tuple #[idV x, .bool true]) ∧ Below w.heap.size w w' := by
  obtain ⟨h1, h2, vp, va, ev, h3, h4, h5, h6, h7, h8, h9⟩ := h
  obtain ⟨_, c4, c5, c6, c7, c8, c9, f5, f6, f7, f8, f9⟩ := h4.all
  obtain ⟨g, cap, rfl, hg, hcap, _, hx, _⟩ := h5.last
  obtain ⟨x0, x1, x2, x3⟩ := hx.cellsAt
  rcases h3 with ⟨_, rfl⟩ | ⟨h, _⟩
  · clear h4 h5 h6 h7 h8 h9 f5 f6 f7 f8 f9 c4 c6 c8 hx
    have e1 : ((path.length : Int) + 1 - 1) = (path.length : Int) := by omega
    go_enter Tryd.func9, Tryd.ntmps9
    go_wp2
    go_region
    go_wp2
    refine bodyPost_ret (v := .tuple #[idV x, .bool true]) (by simp [results, Tryd.results9, go_sem]) rfl ⟨rfl, ?_⟩
    exact ((Below.refl _ _).alloc (Nat.le_refl _) _).drew
  · simp at h

/-! ### Stores into the walker -/
theorem WCells.set {w : World} {bw : Nat} {cs : List Value} (h : WCells w bw cs) (i : Nat) (hi : i < cs.length) (v : Value) : WCells (w.setCell ⟨bw, i, none⟩ v) bw (cs.set i v) := by
  intro j u hu
  rw [World.frozen?_setCell]
  have hj : j < cs.length := by have := (List.getElem?_eq_some_iff.1 hu).1; simpa using this
  obtain ⟨h1, h2⟩ := h j _ (List.getElem?_eq_getElem hj)
  refine ⟨?_, h2⟩
  by_cases e : i = j
  · subst e
    rw [World.cell?_setCell_same _ _ _ h1]
    simp [hi] at hu
    rw [hu]
  · rw [World.cell?_setCell_other _ _ _ _ (fun h => e (by injection h with h1 h2)), h1]
    rw [List.getElem?_set, if_neg e, List.getElem?_eq_getElem hj] at hu
    exact hu

theorem Row.lt {w : World} {v : Value} {ids : List Id} (h : Row w v ids) {g : Nat} (hg : v.ownBlock = some g) : g < w.heap.size := by
  rcases h with ⟨rfl, _⟩ | ⟨g', cap, rfl, hlt, _⟩
  · simp [Value.ownBlock] at hg
  · simp [Value.ownBlock] at hg
    omega
theorem Row.set {w : World} {v : Value} {ids : List Id} (h : Row w v ids) {bw i : Nat} (hne : ∀ g, v.ownBlock = some g → g ≠ bw) (u : Value) : Row (w.setCell ⟨bw, i, none⟩ u) v ids :=
  h.kept (by simp) (fun g hg => Below.heap_setCell w ⟨bw, i, none⟩ u g (hne g hg))

theorem step_set {w : World} {F : Nat → Prop} {bw : Nat} (hF : F bw) (i : Nat) (u : Value) : Step w (w.setCell ⟨bw, i, none⟩ u) F F :=
  ⟨rfl, rfl, rfl, by simp, fun k hk hn => Below.heap_setCell w ⟨bw, i, none⟩ u k (fun e => hn (by rw [e]; exact hF)), fun _ _ h => h⟩

theorem Walk.setErr {w : World} {F : Nat → Prop} {bw : Nat} {key : Id} {path avoid : List Id} {done bad : Bool} (h : Walk w F bw key path avoid done bad) {ev : Value} (he : IsErr ev) : Walk (w.setCell ⟨bw, 9, none⟩ ev) F bw key path avoid done true := by
  obtain ⟨h1, h2, vp, va, ev0, h3, h4, h5, h6, h7, h8, h9⟩ := h
  exact ⟨h1, by simpa using h2, vp, va, ev, .inr ⟨rfl, he⟩, h4.set 9 (by simp [wcells]) ev, h5.set (fun g hg => (h7 g hg).2) _, h6.set (fun g hg => (h8 g hg).2) _, h7, h8, h9⟩
theorem Walk.setDone {w : World} {F : Nat → Prop} {bw : Nat} {key : Id} {path avoid : List Id} {done bad : Bool} (h : Walk w F bw key path avoid done bad) (d : Bool) : Walk (w.setCell ⟨bw, 7, none⟩ (.bool d)) F bw key path avoid d bad := by
  obtain ⟨h1, h2, vp, va, ev, h3, h4, h5, h6, h7, h8, h9⟩ := h
  exact ⟨h1, by simpa using h2, vp, va, ev, h3, h4.set 7 (by simp [wcells]) _, h5.set (fun g hg => (h7 g hg).2) _, h6.set (fun g hg => (h8 g hg).2) _, h7, h8, h9⟩
theorem Walk.setUnwind {w : World} {F : Nat → Prop} {bw : Nat} {key : Id} {path avoid : List Id} {done bad : Bool} (h : Walk w F bw key path avoid done bad) : Walk (w.setCell ⟨bw, 8, none⟩ (.int .i64 0)) F bw key path avoid done bad := by
  obtain ⟨h1, h2, vp, va, ev, h3, h4, h5, h6, h7, h8, h9⟩ := h
  exact ⟨h1, by simpa using h2, vp, va, ev, h3, h4.set 8 (by simp [wcells]) _, h5.set (fun g hg => (h7 g hg).2) _, h6.set (fun g hg => (h8 g hg).2) _, h7, h8, h9⟩
end Go.Proofs.Qxb6609340aDoor
