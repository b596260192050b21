import Derived.Test.Qxb6609340aDoorSub
import Derived.Deep.RegionLaw
import Derived.Deep.RegionLawGrows
import Derived.Laws.IdiomCopy
namespace Go.Proofs.Qxb6609340aDoor
open Go.ChangeShapes Go.WideShapes Go.ChangeAt Go.RowKit
set_option linter.unusedVariables false

/-- A slice of ids of the run's own: nil, or it begins a block of 'cap' times four cells, none frozen; its elements are 'ids'. -/
def Row (w : World) (v : Value) (ids : List Id) : Prop :=
  (v = .slice none 0 0 ∧ ids = []) ∨ ∃ g cap, v = .slice (some ⟨g, 0, none⟩) ids.length cap ∧ g < w.heap.size ∧ ids.length ≤ cap ∧ cap ≤ maxLen ∧
    (∀ j, j < cap * 4 → (w.cell? ⟨g, j, none⟩).isSome = true ∧ w.frozen? ⟨g, j, none⟩ = false) ∧ ∀ k x, ids[k]? = some x → IdAt w g (k * 4) x

theorem Row.kept {w w' : World} {v : Value} {ids : List Id} (h : Row w v ids) (hs : w.heap.size ≤ w'.heap.size) (hb : ∀ g, v.ownBlock = some g → w'.heap[g]? = w.heap[g]?) : Row w' v ids := by
  rcases h with h | ⟨g, cap, rfl, hg, h1, h2, h3, h4⟩
  · exact .inl h
  · have hb' := hb g rfl
    refine .inr ⟨g, cap, rfl, by omega, h1, h2, fun j hj => ?_, fun k x hk j hj => ?_⟩
    · rw [World.cell?_of_block (w := w) (a := ⟨g, j, none⟩) hb', World.frozen?_of_block (w := w) (a := ⟨g, j, none⟩) hb']
      exact h3 j hj
    · rw [World.cell?_of_block (w := w) (a := ⟨g, k * 4 + j, none⟩) hb']
      exact h4 k x hk j hj

theorem Row.nil (w : World) : Row w (.slice none 0 0) [] := .inl ⟨rfl, rfl⟩

theorem Row.last {w : World} {v : Value} {ids : List Id} {x : Id} (h : Row w v (ids ++ [x])) : ∃ g cap, v = .slice (some ⟨g, 0, none⟩) (ids.length + 1) cap ∧ g < w.heap.size ∧ ids.length + 1 ≤ cap ∧ cap ≤ maxLen ∧ IdAt w g (ids.length * 4) x ∧ Row w (.slice (some ⟨g, 0, none⟩) ids.length cap) ids := by
  rcases h with ⟨_, h⟩ | ⟨g, cap, rfl, hg, h1, h2, h3, h4⟩
  · simp at h
  · simp at h1
    exact ⟨g, cap, by simp, hg, h1, h2, h4 _ x (by simp), .inr ⟨g, cap, rfl, hg, by omega, h2, h3, fun k y hk => h4 k y (by rw [List.getElem?_append_left (List.getElem?_eq_some_iff.1 hk).1]; exact hk)⟩⟩

/-- The cells of an id. -/
def ic (x : Id) : List Value := [.int .u64 x.a, .int .u64 x.b, .int .u64 x.c, .int .u64 x.d]
theorem ic_get (x : Id) (j : Nat) (u : Value) (h : (ic x)[j]? = some u) : j < 4 ∧ u = .int .u64 (lim x j) := by
  match j, h with
  | 0, h => simp [ic] at h; exact ⟨by omega, h.symm⟩
  | 1, h => simp [ic] at h; exact ⟨by omega, h.symm⟩
  | 2, h => simp [ic] at h; exact ⟨by omega, h.symm⟩
  | 3, h => simp [ic] at h; exact ⟨by omega, h.symm⟩
  | n + 4, h => simp [ic] at h
theorem ic_at (x : Id) (j : Nat) (h : j < 4) : (ic x)[j]? = some (.int .u64 (lim x j)) := by
  match j, h with
  | 0, _ => rfl
  | 1, _ => rfl
  | 2, _ => rfl
  | 3, _ => rfl

theorem flat_len (ids : List Id) : (ids.flatMap ic).length = ids.length * 4 := by
  induction ids with
  | nil => rfl
  | cons x xs ih => simp only [List.flatMap_cons, List.length_append, ih, List.length_cons, ic, List.length_nil]; omega
theorem flat_get (ids : List Id) (k : Nat) (x : Id) (h : ids[k]? = some x) (j : Nat) (hj : j < 4) : (ids.flatMap ic)[k * 4 + j]? = some (.int .u64 (lim x j)) := by
  induction ids generalizing k with
  | nil => simp at h
  | cons y ys ih =>
    rw [List.flatMap_cons]
    cases k with
    | zero =>
      simp at h
      subst h
      rw [List.getElem?_append_left (by simp [ic]; omega), Nat.zero_mul, Nat.zero_add]
      exact ic_at _ j hj
    | succ k =>
      simp at h
      rw [List.getElem?_append_right (by simp [ic]; omega)]
      have : (k + 1) * 4 + j - (ic y).length = k * 4 + j := by simp [ic]; omega
      rw [this]
      exact ih k h
theorem flat_find (ids : List Id) (i : Nat) (u : Value) (h : (ids.flatMap ic)[i]? = some u) : ∃ x, ids[i / 4]? = some x ∧ u = .int .u64 (lim x (i % 4)) := by
  have hlt : i < ids.length * 4 := by rw [← flat_len]; exact (List.getElem?_eq_some_iff.1 h).1
  have hk : i / 4 < ids.length := by omega
  refine ⟨ids[i / 4], List.getElem?_eq_getElem hk, ?_⟩
  have := flat_get ids (i / 4) _ (List.getElem?_eq_getElem hk) (i % 4) (by omega)
  rw [show i / 4 * 4 + i % 4 = i by omega, h] at this
  exact Option.some.inj this

/-- A row of the law on append, as this text says it. -/
theorem row_of_owns {w : World} {base n : Nat} {e : TypeId} {v : Value} {ids : List Id} (h : w.ownsRow base e 4 v n (ids.flatMap ic)) (hn : n = ids.length) (h0 : 0 < n) : ∃ g cap, v = .slice (some ⟨g, 0, none⟩) n cap ∧ base ≤ g ∧ Row w (.slice (some ⟨g, 0, none⟩) n cap) ids := by
  obtain ⟨_, ⟨_, h⟩ | ⟨g, cap, cur, rfl, hg, hb, h1, h2, h3, h4⟩⟩ := h
  · omega
  · subst hn
    have hcell : ∀ j, w.cell? ⟨g, j, none⟩ = cur[j]? := fun j => by simp [World.cell?, hb]
    refine ⟨g, cap, rfl, hg, .inr ⟨g, cap, rfl, (Array.getElem?_eq_some_iff.1 hb).1, h1, h2, fun j hj => ⟨?_, ?_⟩, fun k x hk j hj => ?_⟩⟩
    · rw [hcell]
      simp [h3, hj]
    · simp [World.frozen?, hb]
    · rw [hcell]
      have h5 := flat_get ids k x hk j hj
      have hk' : k < ids.length := (List.getElem?_eq_some_iff.1 hk).1
      rw [← h4, List.getElem?_take, if_pos (by omega)] at h5
      simpa using h5

theorem heap_setCells (b : Nat) : ∀ (vs : List Value) (o : Nat) (w : World), (w.setCells b o vs).heap.size = w.heap.size ∧ (∀ k, k ≠ b → (w.setCells b o vs).heap[k]? = w.heap[k]?) ∧ (w.setCells b o vs).os = w.os ∧ (w.setCells b o vs).tape = w.tape ∧ (w.setCells b o vs).output = w.output
  | [], _, w => ⟨rfl, fun _ _ => rfl, rfl, rfl, rfl⟩
  | v :: r, o, w => by
    rw [World.setCells]
    obtain ⟨h1, h2, h3, h4, h5⟩ := heap_setCells b r (o + 1) (w.setCell ⟨b, o, none⟩ v)
    refine ⟨by rw [h1]; simp, fun k hk => by rw [h2 k hk]; exact Below.heap_setCell w ⟨b, o, none⟩ v k hk, by rw [h3]; rfl, by rw [h4]; rfl, by rw [h5]; rfl⟩

/-- The row behind an append that found room. -/
theorem row_room {w : World} {g cap : Nat} {ids : List Id} (x : Id) (h : Row w (.slice (some ⟨g, 0, none⟩) ids.length cap) ids) (hlt : ids.length < cap) : Row (w.setCells g (0 + ids.length * 4) (ic x)) (.slice (some ⟨g, 0, none⟩) (ids.length + 1) cap) (ids ++ [x]) := by
  rcases h with ⟨h, _⟩ | ⟨g', cap', h, hg, h1, h2, h3, h4⟩
  · simp at h
  · simp at h
    obtain ⟨rfl, rfl⟩ := h
    obtain ⟨e1, e2, _⟩ := heap_setCells g (ic x) (0 + ids.length * 4) w
    have hout : ∀ j, (j < ids.length * 4 ∨ ids.length * 4 + 4 ≤ j) → (w.setCells g (0 + ids.length * 4) (ic x)).cell? ⟨g, j, none⟩ = w.cell? ⟨g, j, none⟩ := fun j hj => World.cell?_setCells_out g (ic x) _ w ⟨g, j, none⟩ (fun _ _ => by simp [ic]; omega)
    have hin : ∀ j, j < 4 → (w.setCells g (0 + ids.length * 4) (ic x)).cell? ⟨g, ids.length * 4 + j, none⟩ = some (.int .u64 (lim x j)) := fun j hj => by
      have := World.cell?_setCells_in g (ic x) (0 + ids.length * 4) w (fun j hj => (h3 _ (by simp [ic] at hj; omega)).1) j (by simp [ic]; omega)
      rw [Nat.zero_add] at this ⊢
      rw [this]
      have h5 := ic_at x j hj
      rw [List.getElem?_eq_getElem (by simp [ic]; omega)] at h5
      exact h5
    refine .inr ⟨g, cap, by simp, by rw [e1]; exact hg, by simp; omega, h2, fun j hj => ?_, fun k y hk j hj => ?_⟩
    · rw [World.frozen?_setCells]
      refine ⟨?_, (h3 j hj).2⟩
      by_cases hj' : j < ids.length * 4 ∨ ids.length * 4 + 4 ≤ j
      · rw [hout j hj']
        exact (h3 j hj).1
      · have := hin (j - ids.length * 4) (by omega)
        rw [show ids.length * 4 + (j - ids.length * 4) = j by omega] at this
        rw [this]
        rfl
    · by_cases hk' : k < ids.length
      · rw [List.getElem?_append_left hk'] at hk
        rw [hout _ (by omega)]
        exact h4 k y hk j hj
      · rw [List.getElem?_append_right (by omega)] at hk
        have : k - ids.length = 0 := by
          rcases Nat.eq_zero_or_pos (k - ids.length) with h | h
          · exact h
          · rw [List.getElem?_eq_none (by simp; omega)] at hk; simp at hk
        rw [this] at hk
        simp at hk
        subst hk
        rw [show k = ids.length by omega]
        exact hin j hj

/-- 'append(row, x)' AS ONE STEP OF A REGION THAT DRAWS: room or none. -/
theorem step_push {P : Program} {ops : Array Oper} {o : Oper} {a : Act} {w : World} {K : Act → World → Prop} {Q : Exit → Act → World → Prop} {E : Prop}
    (hg : o.guard = none) (s x : Operand) (t : TypeId) (hop : o.op = Op.call { callee := Callee.builtin Builtin.append, args := #[s, x], argTypes := #[t, t] })
    (e : TypeId) (i : TypeInfo) (z : Value) (h1 : P.underlying t = some (.slice e)) (h2 : P.info? e = some i) (h3 : i.zero = some z) (h4 : i.size = 4) (h5 : i.bytes = 32) (h6 : z.cells.size = 4)
    (v : Value) (ids : List Id) (y : Id) (hs : a.eval s = v) (hrow : Row w v ids) (hlen : ids.length ≤ 1000000)
    (ad : Addr) (c : Nat) (hx : a.eval x = .slice (some ad) 1 c) (hc : ∀ j, j < 4 → w.cell? (ad.add j) = some (.int .u64 (lim y j)))
    (hK : ∀ g cap w', Row w' (.slice (some ⟨g, 0, none⟩) (ids.length + 1) cap) (ids ++ [y]) → w.grownBy w' v.ownBlock → (v.ownBlock = some g ∨ w.heap.size ≤ g) → K (a.put o.dst (.slice (some ⟨g, 0, none⟩) (ids.length + 1) cap)) w') :
    if Region.wanted o (yielded ops a.tmps) = true then Oper.wp P o a w K Q else E := by
  have hc' : ∀ j u, (ic y)[j]? = some u → w.cell? (ad.add j) = some u := fun j u hu => by
    obtain ⟨hj, rfl⟩ := ic_get y j u hu
    exact hc j hj
  have hone : ∀ u ∈ ic y, u.oneCell' = true := by
    intro u hu
    simp [ic] at hu
    rcases hu with rfl | rfl | rfl | rfl <;> rfl
  have big : ids.length + 1 ≤ maxLen := by unfold maxLen; omega
  have flat : ids.flatMap ic ++ ic y = (ids ++ [y]).flatMap ic := by simp
  have grows : ∀ ao cap, v = .slice ao ids.length cap → (ao = none → ids.length = 0 ∧ cap = 0) → (∀ b, ao = some b → ∀ j u, (ids.flatMap ic)[j]? = some u → w.cell? (b.add j) = some u) → cap < ids.length + 1 →
      if Region.wanted o (yielded ops a.tmps) = true then Oper.wp P o a w K Q else E := by
    intro ao cap hv hnone holds hfull
    refine step_append_grows hg s x t hop e i z 4 32 h1 h2 h3 h4 h5 h6 (by decide) ao ids.length cap (ids.flatMap ic) (by rw [hs, hv]) hnone (flat_len ids) holds ad 1 c (ic y) hx (by rfl) hc' hone hfull big (by omega) ?_
    intro v' w' hown hgr
    rw [flat] at hown
    obtain ⟨g, cap', rfl, hge, hr⟩ := row_of_owns hown (by simp) (by omega)
    exact hK g cap' w' hr ⟨hgr.os, hgr.tape, hgr.output, hgr.size, fun k hk _ => hgr.block k hk (by simp)⟩ (.inr hge)
  rcases hrow with ⟨rfl, rfl⟩ | ⟨g, cap, rfl, hg', k1, k2, k3, k4⟩
  · exact grows none 0 rfl (fun _ => ⟨rfl, rfl⟩) (fun b hb => by simp at hb) (by simp)
  · by_cases hroom : ids.length < cap
    · refine step_append_room hg s x t hop e i 4 h1 h2 h4 g 0 ids.length cap hs ad 1 c (ic y) hx (by rfl) hc' hone (by omega) (fun j hj => k3 _ (by simp [ic] at hj; omega)) ?_
      obtain ⟨e1, e2, e3, e4, e5⟩ := heap_setCells g (ic y) (0 + ids.length * 4) w
      exact hK g cap _ (row_room y (.inr ⟨g, cap, rfl, hg', k1, k2, k3, k4⟩) hroom) ⟨e3, e4, e5, by rw [e1]; exact Nat.le_refl _, fun k _ hk => e2 k (fun h => hk (by rw [h]; rfl))⟩ (.inl rfl)
    · refine grows (some ⟨g, 0, none⟩) cap rfl (fun h => by simp at h) (fun b hb j u hu => ?_) (by omega)
      simp at hb
      subst hb
      obtain ⟨y', hy, rfl⟩ := flat_find ids j u hu
      have := k4 _ y' hy (j % 4) (by omega)
      rw [show j / 4 * 4 + j % 4 = j by omega] at this
      rw [add_plain, Nat.zero_add]
      exact this
end Go.Proofs.Qxb6609340aDoor
