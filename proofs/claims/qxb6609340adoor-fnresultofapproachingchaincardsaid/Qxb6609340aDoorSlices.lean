import Derived.Test.Qxb6609340aDoorLift
import Derived.Test.Qxb6609340aDoorLive
import Derived.Deep.Slices
namespace Go.Proofs.Qxb6609340aDoor
open Go.ChangeShapes Go.WideShapes Go.ChangeAt Go.RowKit
set_option linter.unusedVariables false

theorem cells23 : Tryd.prog.cellsOf 23 = 4 := by kernel_rfl
theorem cells4 : Tryd.prog.cellsOf 4 = 1 := by kernel_rfl
instance : Inhabited Id := ⟨zero⟩

section
variable {H : Type} {enc : TypeId × Value → H} {w : World} {base : Nat} {spare : Nat → Bool} {held : Bool}

/-- Four words, read. -/
theorem open_four {fuel : Nat} {cs : List Value} {x : DataW H × List MemPlace} (h : DataW.trod enc Tryd.prog w base spare held fuel 23 cs = some x) : ∃ y : Id, cs = ic y ∧ y.wf := by
  obtain ⟨xs, m1, _, _, hlen, hn3, hel⟩ := DataW.trod_array Tryd.underlying23 h
  rw [cells23] at hlen
  match cs, hlen, xs, hn3 with
  | [v0, v1, v2, v3], _, [y0, y1, y2, y3], _ =>
    have g0 : DataW.trod enc Tryd.prog w base spare held m1 22 [v0] = some y0 := by simpa [cells22] using hel 0 (by omega)
    have g1 : DataW.trod enc Tryd.prog w base spare held m1 22 [v1] = some y1 := by simpa [cells22] using hel 1 (by omega)
    have g2 : DataW.trod enc Tryd.prog w base spare held m1 22 [v2] = some y2 := by simpa [cells22] using hel 2 (by omega)
    have g3 : DataW.trod enc Tryd.prog w base spare held m1 22 [v3] = some y3 := by simpa [cells22] using hel 3 (by omega)
    obtain ⟨a, e0, _, w0⟩ := DataW.trod_int Tryd.underlying22 g0
    obtain ⟨b, e1, _, w1⟩ := DataW.trod_int Tryd.underlying22 g1
    obtain ⟨c, e2, _, w2⟩ := DataW.trod_int Tryd.underlying22 g2
    obtain ⟨d', e3, _, w3⟩ := DataW.trod_int Tryd.underlying22 g3
    simp only [List.cons.injEq, and_true] at e0 e1 e2 e3
    subst e0 e1 e2 e3
    exact ⟨⟨a, b, c, d'⟩, rfl, bounds_u64 w0, bounds_u64 w1, bounds_u64 w2, bounds_u64 w3⟩

theorem range_get {α : Type} {n : Nat} {f : Nat → α} {i : Nat} {e : α} (he : ((List.range n).map f)[i]? = some e) : i < n ∧ e = f i := by
  rw [List.getElem?_map] at he
  rcases Nat.lt_or_ge i n with h | h
  · rw [List.getElem?_range h] at he
    simp at he
    exact ⟨h, he.symm⟩
  · rw [List.getElem?_eq_none (by simpa using h)] at he
    simp at he

/-- A slice of ids that came in. -/
theorem open_ids {fuel : Nat} {a : Option Addr} {len cap : Nat} {x : DataW H × List MemPlace} (h : DataW.trod enc Tryd.prog w 0 spare held fuel 37 [.slice a len cap] = some x) :
    ∃ ids : List Id, ids.length = len ∧ Ids w w.heap.size (.slice a len cap) ids ∧ ∀ y, y ∈ ids → y.wf := by
  rcases Deep.open_slice Tryd.underlying37 h with ⟨hcs, _⟩ | ⟨ad, l, c, m, n, D, Pl, hcs, _, hl, hm, hmm, _, hel⟩
  · simp at hcs
    obtain ⟨rfl, rfl, rfl⟩ := hcs
    exact ⟨[], rfl, ⟨none, 0, rfl, fun k x hk => by simp at hk⟩, fun y hy => by simp at hy⟩
  · simp at hcs
    obtain ⟨rfl, rfl, rfl⟩ := hcs
    have hlm : len ≤ m := by rw [hmm]; split <;> omega
    have hex : ∀ i, i < len → ∃ y : Id, y.wf ∧ w.cells? 0 (ad.add (i * 4)) 4 = some (ic y) := by
      intro i hi
      obtain ⟨cs', h1, h2⟩ := hel i (by omega)
      rw [cells23] at h1
      obtain ⟨y, rfl, hy⟩ := open_four h2
      exact ⟨y, hy, h1⟩
    obtain ⟨f, hf⟩ := Deep.choose_lt (α := Id) (n := len) (p := fun i y => y.wf ∧ w.cells? 0 (ad.add (i * 4)) 4 = some (ic y)) hex
    refine ⟨(List.range len).map f, by simp, ⟨some ad, cap, by simp, fun i e he => ?_⟩, fun y hy => ?_⟩
    · obtain ⟨hi, rfl⟩ := range_get he
      obtain ⟨_, hcs⟩ := hf i hi
      obtain ⟨_, _, hc⟩ := World.cells?_some hcs
      obtain ⟨b, off, spot⟩ := ad
      have hspot : spot = none := by
        obtain ⟨_, _, hc0⟩ := World.cells?_some (hf 0 (by omega)).2
        simpa [Addr.add] using World.cell?_spot (hc0 0 (by omega))
      subst hspot
      simp only [add_plain] at hc
      have h0 := hc 0 (by omega)
      refine ⟨b, off, rfl, World.block_lt_of_cell? w _ h0, fun j hj => ?_⟩
      have hj' := hc j hj
      rw [ic_at _ j hj] at hj'
      exact hj'
    · obtain ⟨i, hi⟩ := List.mem_iff_getElem?.1 hy
      obtain ⟨hlt, rfl⟩ := range_get hi
      exact (hf i hlt).1

/-- A slice of bools that came in. -/
theorem open_bools {fuel : Nat} {a : Option Addr} {len cap : Nat} {x : DataW H × List MemPlace} (h : DataW.trod enc Tryd.prog w 0 spare held fuel 38 [.slice a len cap] = some x) :
    ∃ bs : List Bool, bs.length = len ∧ Bools w w.heap.size (.slice a len cap) bs := by
  rcases Deep.open_slice Tryd.underlying38 h with ⟨hcs, _⟩ | ⟨ad, l, c, m, n, D, Pl, hcs, _, hl, hm, hmm, _, hel⟩
  · simp at hcs
    obtain ⟨rfl, rfl, rfl⟩ := hcs
    exact ⟨[], rfl, none, 0, rfl, fun k x hk => by simp at hk⟩
  · simp at hcs
    obtain ⟨rfl, rfl, rfl⟩ := hcs
    have hlm : len ≤ m := by rw [hmm]; split <;> omega
    have hex : ∀ i, i < len → ∃ y : Bool, w.cells? 0 (ad.add (i * 1)) 1 = some [.bool y] := by
      intro i hi
      obtain ⟨cs', h1, h2⟩ := hel i (by omega)
      rw [cells4] at h1
      obtain ⟨y, rfl, _⟩ := DataW.trod_bool Tryd.underlying4 h2
      exact ⟨y, h1⟩
    obtain ⟨f, hf⟩ := Deep.choose_lt (α := Bool) (n := len) (p := fun i y => w.cells? 0 (ad.add (i * 1)) 1 = some [.bool y]) hex
    refine ⟨(List.range len).map f, by simp, some ad, cap, by simp, fun i e he => ?_⟩
    obtain ⟨hi, rfl⟩ := range_get he
    obtain ⟨_, _, hc⟩ := World.cells?_some (hf i hi)
    obtain ⟨b, off, spot⟩ := ad
    have hspot : spot = none := by
      obtain ⟨_, _, hc0⟩ := World.cells?_some (hf 0 (by omega))
      simpa [Addr.add] using World.cell?_spot (hc0 0 (by omega))
    subst hspot
    simp only [add_plain] at hc
    have h0 := hc 0 (by omega)
    exact ⟨b, off, rfl, World.block_lt_of_cell? w _ h0, by simpa using h0⟩
end
end Go.Proofs.Qxb6609340aDoor
