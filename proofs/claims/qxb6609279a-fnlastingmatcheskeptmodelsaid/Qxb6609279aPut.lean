import Derived.Test.Qxb6609279aMap
import Derived.Deep.RegionWith
import Derived.Deep.CutRange
import Derived.Deep.QuietTactic
import Derived.BigQuiet
import Derived.OwnWalk
import Derived.Laws.OwnMore
namespace Go.Proofs.Qxb6609279a
open Go.ChangeShapes Go.WideShapes Go.ChangeAt Go.RowKit Go.Maps
set_option linter.unusedVariables false

/-- The block of one auth key. -/
def authBlock (us : ByteArray) : Obj := .cells #[.string ⟨#[]⟩, .string ⟨#[]⟩, .bool false, .string ⟨#[]⟩, .string ⟨#[]⟩, .string us, .string ⟨#[]⟩] 67

theorem below_grown {w w' : World} (h : Below w.heap.size w w') : w.grownBy w' none := ⟨h.os, h.tape, h.output, h.size, fun k hk _ => h.block k hk⟩

/-- The map as it stands, and an auth key's block b laid beside it. -/
def Good (bm : Nat) (ents : List Ent) (k : Nat) (us : ByteArray) (W : World) (b : Nat) : Prop := MapOK W bm ents k ∧ b < W.heap.size ∧ b ≠ bm ∧ W.heap[b]? = some (authBlock us)

theorem MapOK.lt {w : World} {bm : Nat} {ents : List Ent} {k : Nat} (h : MapOK w bm ents k) : bm < w.heap.size := by
  obtain ⟨es, clock, hb, _⟩ := h
  exact (Array.getElem?_eq_some_iff.1 hb).1

theorem good_alloc {W : World} {bm : Nat} {ents : List Ent} {k : Nat} (us : ByteArray) (h : MapOK W bm ents k) : Good bm ents k us (W.alloc (authBlock us)) W.heap.size :=
  ⟨h.kept (World.grownBy_alloc W _ none), by simp, by have := h.lt; omega, heap_alloc_new W _⟩
theorem good_later {W W' : World} {bm : Nat} {ents : List Ent} {k : Nat} {us : ByteArray} {b : Nat} (h : Good bm ents k us W b) (hb : Below W.heap.size W W') : Good bm ents k us W' b :=
  ⟨h.1.kept (below_grown hb), Nat.lt_of_lt_of_le h.2.1 hb.size, h.2.2.1, (hb.block b h.2.1).trans h.2.2.2⟩

theorem good_drew {W : World} {bm : Nat} {ents : List Ent} {k : Nat} {us : ByteArray} {b : Nat} (h : Good bm ents k us W b) : Good bm ents k us W.drew b := h

/-- The store into the map, for every world that is good for it. -/
theorem store_fn (bm : Nat) (ents : List Ent) (k : Nat) (e : Ent) (he : ents[k]? = some e) (hk : ∃ l, keyOf Try.prog 74 (ekey e) = some l) :
    ∃ f : World → Nat → World, ∀ W b, Good bm ents k e.us W b →
      (Instr.mapUpdate 44 (.map (some bm)) (ekey e) (.agg #[.slice (some ⟨b, 0, none⟩) 1 1, .int .u64 (nsOf e.ex), .int .i64 (secOf e.ex), .pointer none])).run Try.prog W = .ok () (f W b) ∧ MapOK (f W b) bm ents (k + 1) ∧ W.grownBy (f W b) (some bm) := by
  have H : ∀ x : World × Nat, ∃ w' : World, Good bm ents k e.us x.1 x.2 →
      (Instr.mapUpdate 44 (.map (some bm)) (ekey e) (.agg #[.slice (some ⟨x.2, 0, none⟩) 1 1, .int .u64 (nsOf e.ex), .int .i64 (secOf e.ex), .pointer none])).run Try.prog x.1 = .ok () w' ∧ MapOK w' bm ents (k + 1) ∧ x.1.grownBy w' (some bm) := by
    intro x
    by_cases h : Good bm ents k e.us x.1 x.2
    · obtain ⟨w', h1⟩ := h.1.put e he hk _ ⟨x.2, rfl, h.2.1, h.2.2.1, h.2.2.2⟩
      exact ⟨w', fun _ => h1⟩
    · exact ⟨x.1, fun h' => absurd h' h⟩
  obtain ⟨f, hf⟩ := Classical.skolem.1 H
  exact ⟨fun W b => f (W, b), fun W b h => hf (W, b) h⟩

set_option maxRecDepth 100000 in
set_option maxHeartbeats 3200000 in
theorem put_any (bc bm : Nat) (ents : List Ent) (k : Nat) (e : Ent) (w : World) (he : ents[k]? = some e) (hk : ∃ l, keyOf Try.prog 74 (ekey e) = some l) (hd0 : -9223372036854775808 ≤ e.ex) (hd1 : e.ex ≤ 9223372036854775807)
    (hbc : bc < w.heap.size) (hc : w.cell? ⟨bc, 3, none⟩ = some (.map (some bm))) (hm : MapOK w bm ents k) :
    Calls Try.prog 14 #[.pointer (some ⟨bc, 0, none⟩), .string e.kt, .string e.h, .string e.p, .string e.ac, .int .i64 e.ex, .string e.us] w fun r w' => r = .returned (.tuple #[]) ∧ MapOK w' bm ents (k + 1) ∧ w.grownBy w' (some bm) := by
  obtain ⟨f, hf⟩ := store_fn bm ents k e he hk
  have hup : ∀ W b, Good bm ents k e.us W b → (Instr.mapUpdate 44 (.map (some bm)) (keyV e.kt e.h e.p e.ac) (.agg #[.slice (some ⟨b, 0, none⟩) 1 1, .int .u64 (nsOf e.ex), .int .i64 (secOf e.ex), .pointer none])).run Try.prog W = .ok () (f W b) := fun W b h => (hf W b h).1
  have HF := hide hf
  have HM := hide hm
  clear hf hm he hk
  go_enter Try.func14, Try.ntmps14
  go_wp2
  go_region_with (first | (go_at_call 21; refine (cacheKey_any e.kt e.h e.p e.ac _).mono ?_; rintro r w1 ⟨rfl, hb1⟩; have hbw1 : Below w.heap.size w w1 := (by first | exact (Below.drew (Below.refl _ _)).trans (hb1.mono (by simp)) | exact (((Below.refl _ _).alloc (Nat.le_refl _) _).drew).trans (hb1.mono (by simp))); have c1 := (hbw1.cell (p := ⟨bc, 3, none⟩) hbc).trans hc; have sz1 : bc < w1.heap.size := Nat.lt_of_lt_of_le hbc hbw1.size; have M1 := hide (HM.out.kept (below_grown hbw1)); first | have gA : Good bm ents k e.us w1 w.heap.size := good_later (good_drew (good_alloc e.us HM.out)) hb1 | skip) | (go_at_call 13; refine (add_any e.ex _ hd0 hd1).mono ?_; rintro r w2 ⟨rfl, hb2⟩; have hbw2 : Below w.heap.size w w2 := (by first | exact hbw1.trans (hb2.mono hbw1.size) | exact (hbw1.alloc hbw1.size _).trans (hb2.mono (by have := hbw1.size; simp; omega))); have c2 := (hbw2.cell (p := ⟨bc, 3, none⟩) hbc).trans hc; have sz2 : bc < w2.heap.size := Nat.lt_of_lt_of_le hbc hbw2.size; have gC : Good bm ents k e.us (w2.alloc (.cells #[.string ⟨#[]⟩, .string ⟨#[]⟩, .bool false, .string ⟨#[]⟩, .string ⟨#[]⟩, .string e.us, .string ⟨#[]⟩] 67)) w2.heap.size := good_alloc e.us (HM.out.kept (below_grown hbw2)); first | have gB : Good bm ents k e.us w2 w.heap.size := good_later gA hb2 | have gB : Good bm ents k e.us w2 w1.heap.size := good_later (good_alloc e.us M1.out) hb2 | skip))
  all_goals
    go_wp2
    go_end0
    refine ⟨rfl, ?_⟩
    have grow : ∀ {W W' : World}, Below w.heap.size w W → W.grownBy W' (some bm) → w.grownBy W' (some bm) := fun {W W'} h1 h2 => ⟨h2.os.trans h1.os, h2.tape.trans h1.tape, h2.output.trans h1.output, Nat.le_trans h1.size h2.size, fun j hj hne => (h2.block j (Nat.lt_of_lt_of_le hj h1.size) hne).trans (h1.block j hj)⟩
    first
      | exact ⟨(HF.out _ _ gB).2.1, grow hbw2 (HF.out _ _ gB).2.2⟩
      | exact ⟨(HF.out _ _ gC).2.1, grow (hbw2.alloc hbw2.size _) (HF.out _ _ gC).2.2⟩
end Go.Proofs.Qxb6609279a
