import Derived.Test.Qxb6609279aMap
import Derived.Deep.RegionWith
import Derived.BigQuiet
import Derived.OwnWalk
import Derived.Laws.OwnMore
namespace Go.Proofs.Qxb6609279a
open Go.ChangeShapes Go.WideShapes Go.ChangeAt Go.RowKit Go.Maps
set_option linter.unusedVariables false

theorem three_new {w w1 : World} {a b c : Value} {t : TypeId} (hb : Below (w.alloc (.cells #[a, b, c] t)).heap.size (w.alloc (.cells #[a, b, c] t)) w1) :
    w1.cell? ⟨w.heap.size, 0, none⟩ = some a ∧ w1.cell? ⟨w.heap.size, 1, none⟩ = some b ∧ w1.cell? ⟨w.heap.size, 2, none⟩ = some c ∧
    w1.frozen? ⟨w.heap.size, 0, none⟩ = false ∧ w1.frozen? ⟨w.heap.size, 1, none⟩ = false ∧ w1.frozen? ⟨w.heap.size, 2, none⟩ = false := by
  refine ⟨(hb.cell (by simp)).trans (by go_simp), (hb.cell (by simp)).trans (by go_simp), (hb.cell (by simp)).trans (by go_simp), (hb.frozen (by simp)).trans (by go_simp), (hb.frozen (by simp)).trans (by go_simp), (hb.frozen (by simp)).trans (by go_simp)⟩

theorem now_any (bn : Nat) (now : Int) (w : World) (hlt : bn < w.heap.size) (hn : w.cell? ⟨bn, 0, none⟩ = some (.int .i64 now)) (hd0 : -9223372036854775808 ≤ now) (hd1 : now ≤ 9223372036854775807) :
    Calls Try.prog 12 #[.pointer (some ⟨bn, 0, none⟩)] w fun r w' => r = .returned (.agg #[.int .u64 (nsOf now), .int .i64 (secOf now), .pointer none]) ∧ Below w.heap.size w w' := by
  go_enter Try.func12, Try.ntmps12
  go_wp2_with (go_at_call 13; refine (add_any now _ hd0 hd1).mono ?_; rintro r w1 ⟨rfl, hb1⟩; obtain ⟨c0, c1, c2, f0, f1, f2⟩ := three_new hb1)
  refine bodyPost_ret (v := .agg #[.int .u64 (nsOf now), .int .i64 (secOf now), .pointer none]) (by simp [results, Try.results12, go_sem, c0, c1, c2]) rfl ⟨rfl, ?_⟩
  have h1 : Below w.heap.size w w1 := ((Below.refl w.heap.size w).alloc (Nat.le_refl _) _).trans (hb1.mono (by simp))
  exact ((h1.setCell (Nat.le_refl _) _).setCell (Nat.le_refl _) _).setCell (Nat.le_refl _) _

/-- The cache: its clock, its map. -/
def CacheOK (w : World) (bc bn bm : Nat) (now : Int) (ents : List Ent) (k : Nat) : Prop :=
  bc < w.heap.size ∧ bn < w.heap.size ∧ bc ≠ bm ∧ bn ≠ bm ∧ w.cell? ⟨bc, 0, none⟩ = some (.func (.func 12) #[] #[.pointer (some ⟨bn, 0, none⟩)]) ∧ w.cell? ⟨bc, 3, none⟩ = some (.map (some bm)) ∧
  w.cell? ⟨bn, 0, none⟩ = some (.int .i64 now) ∧ MapOK w bm ents k

theorem newCache_any (now : Int) (ents : List Ent) (w : World) :
    Calls Try.prog 7 #[.int .i64 now] w fun r w' => ∃ bc bn bm, r = .returned (.pointer (some ⟨bc, 0, none⟩)) ∧ CacheOK w' bc bn bm now ents 0 ∧ w.heap.size ≤ bm ∧ Below w.heap.size w w' := by
  have hmm := @run_makeMap Try.prog
  have hmf : ∀ (fn : Fn) (first cap : Array Value) (w : World), (Instr.makeFunc fn first cap).run Try.prog w = .ok (.func fn first cap) w := fun _ _ _ _ => rfl
  go_enter Try.func7, Try.ntmps7
  go_wp2
  refine bodyPost_ret (v := .pointer (some ⟨w.heap.size + 1 + 1 + 1, 0, none⟩)) (by simp [results, Try.results7, go_sem]) rfl ⟨w.heap.size + 1 + 1 + 1, w.heap.size, w.heap.size + 1, rfl, ⟨by simp, by simp; omega, by omega, by omega, by go_simp, by go_simp, by go_simp, ?_⟩, by omega, ?_⟩
  · refine ⟨#[], 0, ?_, by simp, by simp, by simp, fun i e h _ => by omega⟩
    rw [Below.heap_alloc _ _ _ (by simp), Below.heap_alloc _ _ _ (by simp)]
    have h := heap_alloc_new (w.alloc (.cells #[.int .i64 now] 2)) (.map #[] 0)
    simpa using h
  · exact (((((Below.refl w.heap.size w).alloc (Nat.le_refl _) _).alloc (by simp) _).alloc (by simp; omega) _).alloc (by simp; omega) _)
end Go.Proofs.Qxb6609279a
