import Derived.Test.Qxb6609340aDoorRows
import Derived.Test.Qxb6609340aDoorTopA
import Derived.ProofKit
import Derived.LaidMore
import Derived.OpenShut
import Derived.Stop.Joined
import Derived.Stop.LaidErr
import Derived.OpenVars
namespace Go.Proofs.Qxb6609340aDoor
open Go.ChangeShapes Go.WideShapes Go.ChangeAt Go.RowKit
set_option linter.unusedVariables false

theorem own : ownKnob Tryd.prog.godebug = none := by kernel_rfl
theorem laidOut : laidOutB Tryd.prog = true := by kernel_rfl
def nP : String := "example.com/ringhop/ringhop/internal/lookup.ErrNoProgress"
def nC : String := "example.com/ringhop/ringhop/internal/lookup.ErrNoCandidate"
theorem gP : Tryd.prog.globalNamed "example.com/ringhop/ringhop/internal/lookup.ErrNoProgress" = some 0 := by kernel_rfl
theorem gC : Tryd.prog.globalNamed "example.com/ringhop/ringhop/internal/lookup.ErrNoCandidate" = some 1 := by kernel_rfl
theorem tP : (Tryd.prog.globals[0]?).map (·.type) = some 33 := by kernel_rfl
theorem tC : (Tryd.prog.globals[1]?).map (·.type) = some 33 := by kernel_rfl
theorem name63 : Tryd.prog.typeName? 3 63 = some "*errors.errorString" := by kernel_rfl
theorem cells83 : Tryd.prog.cellsOf 83 = 1 := by kernel_rfl
theorem cells9 : Tryd.prog.cellsOf 9 = 1 := by kernel_rfl
theorem star : "*" ++ "errors.errorString" = "*errors.errorString" := by decide
theorem row63 (u : TypeId) (h : Tryd.prog.typeName? 3 u = some "*errors.errorString") : u = 63 :=
  typeName_ptr_named (nm := "errors.errorString") (by rw [star]; kernel_rfl) (by kernel_rfl) (by decide) u (by rw [star]; exact h)

abbrev theLaid : List (String × DataW Unit) := [("example.com/ringhop/ringhop/internal/lookup.ErrNoProgress", Rows.laid_example_com_ringhop_ringhop_internal_lookup_ErrNoProgress), ("example.com/ringhop/ringhop/internal/lookup.ErrNoCandidate", Rows.laid_example_com_ringhop_ringhop_internal_lookup_ErrNoCandidate)]

/-- The door's own heap meets the condition. -/
theorem door_met (os : Os) (args : Array Value) : laidMetH Tryd.prog theLaid ((World.doorLaid Tryd.prog 47 os).forCall (fun _ _ => 0) ⟨#[], args, []⟩).memory :=
  laidMetH_of_parts3 (fuel := 8) (laidMet_of_run' 8 (by kernel_rfl) (by kernel_rfl)) (by kernel_rfl) (by kernel_rfl)

/-- What the condition gives the walks. -/
theorem of_laid {W : World} (h : laidMetH Tryd.prog theLaid W) : ∃ a0 a1, W.var? Tryd.prog "example.com/ringhop/ringhop/internal/lookup.ErrNoProgress" = some #[.iface 63 (.pointer (some a0))] ∧ W.var? Tryd.prog "example.com/ringhop/ringhop/internal/lookup.ErrNoCandidate" = some #[.iface 63 (.pointer (some a1))] := by
  rw [MakeChecks.laidMetH_plain _ _ _ (by kernel_rfl)] at h
  obtain ⟨a0, s0, hv0, _⟩ := laid_sentinel h gP tP Tryd.underlying33 row63 Tryd.underlying63 Tryd.underlying83 rfl rfl Tryd.underlying9 cells83 cells9
  obtain ⟨a1, s1, hv1, _⟩ := laid_sentinel h.tail gC tC Tryd.underlying33 row63 Tryd.underlying63 Tryd.underlying83 rfl rfl Tryd.underlying9 cells83 cells9
  exact ⟨a0, a1, hv0, hv1⟩

theorem glob0_of {W : World} {a0 a1 : Addr} (h0 : W.var? Tryd.prog "example.com/ringhop/ringhop/internal/lookup.ErrNoProgress" = some #[.iface 63 (.pointer (some a0))]) (h1 : W.var? Tryd.prog "example.com/ringhop/ringhop/internal/lookup.ErrNoCandidate" = some #[.iface 63 (.pointer (some a1))]) : Glob0 W := by
  have c0 : W.cell? ⟨0, 0, none⟩ = some (.iface 63 (.pointer (some a0))) := by simpa using World.var?_cell gP h0 0
  have c1 : W.cell? ⟨1, 0, none⟩ = some (.iface 63 (.pointer (some a1))) := by simpa using World.var?_cell gC h1 0
  exact ⟨World.block_lt_of_cell? W _ c1, ⟨_, ⟨63, a0, rfl⟩, c0⟩, _, ⟨63, a1, rfl⟩, c1⟩

theorem var_below {W W' : World} {n : String} {g : Nat} {cs : Array Value} (hg : Tryd.prog.globalNamed n = some g) (hb : Below W.heap.size W W') (h : W.var? Tryd.prog n = some cs) : W'.var? Tryd.prog n = some cs := by
  unfold World.var? at h ⊢
  rw [hg] at h ⊢
  simp only [Option.bind_some] at h ⊢
  have hlt : g < W.heap.size := by
    cases hh : W.heap[g]? with
    | none => rw [hh] at h; cases h
    | some o => exact (Array.getElem?_eq_some_iff.1 hh).1
  rw [hb.block g hlt]
  exact h

/-- An array of four words that came in. -/
theorem open_id {H : Type} {enc : TypeId × Value → H} {W : World} {r : Reach} {b0 base : Nat} {sp : Nat → Bool} {held : Bool} {v : Value} {d : DataW H} {ps : List MemPlace} (hval : Value.okWide Tryd.prog W r b0 23 v) (hd : DataW.Trod enc Tryd.prog W base sp held 23 v d ps) : ∃ x : Id, v = idV x ∧ x.wf := by
  have c23 : Tryd.prog.cellsOf 23 = 4 := by kernel_rfl
  simp only [Value.okWide, Tryd.underlying23] at hval
  obtain ⟨cs, rfl, h2, _⟩ := hval
  obtain ⟨fuel, hf⟩ := hd
  obtain ⟨xs, m1, _, hx1, hlen, hn3, hel⟩ := DataW.trod_array Tryd.underlying23 hf
  obtain ⟨l⟩ := cs
  have hl : l.length = 4 := by simpa [c23] using h2
  match l, hl, xs, hn3 with
  | [v0, v1, v2, v3], _, [y0, y1, y2, y3], _ =>
    have g0 : DataW.trod enc Tryd.prog W base sp held m1 22 [v0] = some y0 := by simpa [cells22, Value.cells] using hel 0 (by omega)
    have g1 : DataW.trod enc Tryd.prog W base sp held m1 22 [v1] = some y1 := by simpa [cells22, Value.cells] using hel 1 (by omega)
    have g2 : DataW.trod enc Tryd.prog W base sp held m1 22 [v2] = some y2 := by simpa [cells22, Value.cells] using hel 2 (by omega)
    have g3 : DataW.trod enc Tryd.prog W base sp held m1 22 [v3] = some y3 := by simpa [cells22, Value.cells] using hel 3 (by omega)
    obtain ⟨a, e0, _, w0⟩ := DataW.trod_int Tryd.underlying22 g0
    obtain ⟨b, e1, _, w1⟩ := DataW.trod_int Tryd.underlying22 g1
    obtain ⟨c, e2, _, w2⟩ := DataW.trod_int Tryd.underlying22 g2
    obtain ⟨d', e3, _, w3⟩ := DataW.trod_int Tryd.underlying22 g3
    simp only [List.cons.injEq, and_true] at e0 e1 e2 e3
    subst e0 e1 e2 e3
    exact ⟨⟨a, b, c, d'⟩, rfl, bounds_u64 w0, bounds_u64 w1, bounds_u64 w2, bounds_u64 w3⟩
end Go.Proofs.Qxb6609340aDoor
