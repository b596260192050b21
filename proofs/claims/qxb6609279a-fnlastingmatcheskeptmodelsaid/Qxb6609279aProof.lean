/-
  'Rows.FnLastingMatchesKeptModelSaid' ('example.com/libpullcred/libpullcred/zzlaws_root_b1.FnLastingMatchesKeptModel'): the row, by hand after the shells' frame.
-/
import Derived.Test.Qxb6609279aRows
import Derived.Test.Qxb6609279aTop
import Derived.WalkKit
import Derived.ProofKit
import Derived.OpenShut
import Derived.ShutString
import Derived.ChangeOld
import Derived.Below
import Derived.Deep.Slices
namespace Go.Proofs.Qxb6609279a.fnLastingMatchesKeptModel
open Go.ChangeShapes Go.WideShapes Go.ChangeAt Go.RowKit
open Go.ChangeMaps (open_string shut_string)
set_option linter.unusedVariables false

theorem own : ownKnob Try.prog.godebug = none := by kernel_rfl
theorem cells27 : Try.prog.cellsOf 27 = 6 := by kernel_rfl
theorem cells2 : Try.prog.cellsOf 2 = 1 := by kernel_rfl

instance : Inhabited Ent := ⟨⟨NIL, NIL, NIL, NIL, 0, NIL⟩⟩

section
variable {H : Type} {enc : TypeId × Value → H} {w : World} {base : Nat} {spare : Nat → Bool} {held : Bool}

/-- An entry's six cells, read. -/
theorem six {α : Type} {l : List α} (h : l.length = 6) : ∃ a b c d e f, l = [a, b, c, d, e, f] := by
  match l, h with
  | [a, b, c, d, e, f], _ => exact ⟨a, b, c, d, e, f, rfl⟩
theorem open_entry {fuel : Nat} {cs : List Value} {x : DataW H × List MemPlace} (h : DataW.trod enc Try.prog w base spare held fuel 27 cs = some x) :
    ∃ e : Ent, cs = [.string e.kt, .string e.h, .string e.p, .string e.ac, .int .i64 e.ex, .string e.us] ∧ EntWf e := by
  obtain ⟨xs, n, _, rfl, hl, hlen, hf⟩ := DataW.trod_struct Try.underlying27 h
  rw [cells27] at hl
  obtain ⟨y0, y1, y2, y3, y4, y5, rfl⟩ := six hlen
  obtain ⟨v0, v1, v2, v3, v4, v5, rfl⟩ := six hl
  · clear hl hlen
    have g0 : DataW.trod enc Try.prog w base spare held n 9 [v0] = some y0 := by simpa [cells9, cells2] using hf 0 _ rfl
    have g1 : DataW.trod enc Try.prog w base spare held n 9 [v1] = some y1 := by simpa [cells9, cells2] using hf 1 _ rfl
    have g2 : DataW.trod enc Try.prog w base spare held n 9 [v2] = some y2 := by simpa [cells9, cells2] using hf 2 _ rfl
    have g3 : DataW.trod enc Try.prog w base spare held n 9 [v3] = some y3 := by simpa [cells9, cells2] using hf 3 _ rfl
    have g4 : DataW.trod enc Try.prog w base spare held n 2 [v4] = some y4 := by simpa [cells9, cells2] using hf 4 _ rfl
    have g5 : DataW.trod enc Try.prog w base spare held n 9 [v5] = some y5 := by simpa [cells9, cells2] using hf 5 _ rfl
    obtain ⟨s0, e0, _, l0⟩ := DataW.trod_string Try.underlying9 g0
    obtain ⟨s1, e1, _, l1⟩ := DataW.trod_string Try.underlying9 g1
    obtain ⟨s2, e2, _, l2⟩ := DataW.trod_string Try.underlying9 g2
    obtain ⟨s3, e3, _, l3⟩ := DataW.trod_string Try.underlying9 g3
    obtain ⟨z, e4, _, l4⟩ := DataW.trod_int Try.underlying2 g4
    obtain ⟨s5, e5, _, l5⟩ := DataW.trod_string Try.underlying9 g5
    simp only [List.cons.injEq, and_true] at e0 e1 e2 e3 e4 e5
    subst e0 e1 e2 e3 e4 e5
    exact ⟨⟨s0, s1, s2, s3, z, s5⟩, rfl, l0, l1, l2, l3, l5, bounds_i64 l4⟩
end

/-- WHAT THE WALK IS TOLD OF THE SLICE OF ENTRIES THAT CAME IN. -/
theorem open_ents {H : Type} {enc : TypeId × Value → H} {w : World} {spare : Nat → Bool} {held : Bool} {fuel : Nat} {a : Option Addr} {len cap : Nat} {x : DataW H × List MemPlace}
    (h : DataW.trod enc Try.prog w 0 spare held fuel 22 [.slice a len cap] = some x) : ∃ ents : List Ent, ents.length = len ∧ len ≤ maxLen ∧ Ents w w.heap.size a ents ∧ ∀ (i : Nat) e, ents[i]? = some e → EntWf e := by
  rcases Deep.open_slice Try.underlying22 h with ⟨hcs, _⟩ | ⟨ad, l, c, m, n, D, Pl, hcs, _, hl, hm, hmm, _, hel⟩
  · simp at hcs
    obtain ⟨rfl, rfl, rfl⟩ := hcs
    exact ⟨[], rfl, Nat.zero_le _, fun i e he => by simp at he, fun i e he => by simp at he⟩
  · simp at hcs
    obtain ⟨rfl, rfl, rfl⟩ := hcs
    have hlm : len ≤ m := by rw [hmm]; split <;> omega
    have hex : ∀ i, i < len → ∃ e : Ent, EntWf e ∧ w.cells? 0 (ad.add (i * 6)) 6 = some [.string e.kt, .string e.h, .string e.p, .string e.ac, .int .i64 e.ex, .string e.us] := by
      intro i hi
      obtain ⟨cs', h1, h2⟩ := hel i (by omega)
      rw [cells27] at h1
      obtain ⟨e, rfl, he⟩ := open_entry h2
      exact ⟨e, he, h1⟩
    obtain ⟨f, hf⟩ := Deep.choose_lt (α := Ent) (n := len) (p := fun i e => EntWf e ∧ w.cells? 0 (ad.add (i * 6)) 6 = some [.string e.kt, .string e.h, .string e.p, .string e.ac, .int .i64 e.ex, .string e.us]) hex
    have hget : ∀ i e, ((List.range len).map f)[i]? = some e → i < len ∧ e = f i := by
      intro i e he
      rw [List.getElem?_map] at he
      rcases Nat.lt_or_ge i len with h | h
      · rw [List.getElem?_range h] at he
        simp at he
        exact ⟨h, he.symm⟩
      · rw [List.getElem?_eq_none (by simpa using h)] at he
        simp at he
    refine ⟨(List.range len).map f, by simp, by omega, fun i e he => ?_, fun i e he => ?_⟩
    · obtain ⟨hi, rfl⟩ := hget i e he
      obtain ⟨_, hcs⟩ := hf i hi
      obtain ⟨_, _, hc⟩ := World.cells?_some hcs
      obtain ⟨b, off, spot⟩ := ad
      have h0 := hc 0 (by omega)
      have hspot : spot = none := by
        obtain ⟨_, _, hc0⟩ := World.cells?_some (hf 0 (by omega)).2
        simpa [Addr.add] using World.cell?_spot (hc0 0 (by omega))
      subst hspot
      simp only [add_plain] at hc h0
      exact ⟨b, off, rfl, World.block_lt_of_cell? w _ h0, by simpa using h0, by simpa using hc 1 (by omega), by simpa using hc 2 (by omega), by simpa using hc 3 (by omega), by simpa using hc 4 (by omega), by simpa using hc 5 (by omega)⟩
    · obtain ⟨hi, rfl⟩ := hget i e he
      exact (hf i hi).1

/-! ### THE ROW's STEP -/
set_option maxRecDepth 100000 in
theorem lifted (os : Os) (started : os.Started) (H : Type) (enc : TypeId × Value → H) :
    ReturnsInHanded {} Try.checked os 3 .any (Rows.fnLastingMatchesKeptModelSpec.pre6 enc Try.prog Try.f3 Rows.fnLastingMatchesKeptModelRow.domain false) (Rows.fnLastingMatchesKeptModelSpec.post enc Try.prog Try.f3 false true false false) := by
  refine returnsInHanded_of_change (C := Try.checked) own started (by kernel_rfl) Try.func3
    (ChangeSpec.witness6 (enc := enc) (C := Try.checked) false ⟨#[], #[.int .i64 0, .slice none 0 0, .string ⟨#[]⟩, .string ⟨#[]⟩, .string ⟨#[]⟩], []⟩ 8 (by kernel_rfl) (by kernel_rfl) (by kernel_rfl) (by kernel_rfl)) ?_
  intro W base args ds gs before hval0 hW hcnd _
  have hval : ∀ (j : Nat) t v, Try.f3.params[j]? = some t → args[j]? = some v → Value.okWide Try.prog W .any base t v := hval0
  have hW' := hW
  obtain ⟨p, q, hA0, hV, rfl, hfz, hnd⟩ := hW
  have hA : DataW.TrodAll enc Try.prog W 0 (fun _ => true) true Try.f3.params.toList args.toList ds p := hA0
  rw [Try.params3] at hA hval
  obtain ⟨v0, vs0, d0, ds0, p0, q0, hargs, rfl, rfl, h0, r0⟩ := trodAll_cons hA
  obtain ⟨v1, vs1, d1, ds1, p1, q1, rfl, rfl, rfl, h1, r1⟩ := trodAll_cons r0
  obtain ⟨v2, vs2, d2, ds2, p2, q2, rfl, rfl, rfl, h2, r2⟩ := trodAll_cons r1
  obtain ⟨v3, vs3, d3, ds3, p3, q3, rfl, rfl, rfl, h3, r3⟩ := trodAll_cons r2
  obtain ⟨v4, vs4, d4, ds4, p4, q4, rfl, rfl, rfl, h4, r4⟩ := trodAll_cons r3
  obtain ⟨rfl, rfl, rfl⟩ := trodAll_nil r4
  obtain rfl : args = #[v0, v1, v2, v3, v4] := by cases args; simp_all
  obtain ⟨rfl, rfl⟩ := trodVars_none hV
  obtain ⟨a0, rfl, rfl, rfl, w0⟩ := open_int Try.underlying2 (hval 0 2 v0 rfl rfl) h0
  obtain ⟨a1, len1, cap1, rfl⟩ := okWide_slice Try.underlying22 (hval 1 22 v1 rfl rfl)
  have k1 := h1
  have lt1 : ∀ x ∈ p1, x.block < W.heap.size := by obtain ⟨m, hm⟩ := k1; exact DataW.trod_lt m _ _ _ hm
  obtain ⟨ents, hlen, hmax, hents, hwf⟩ : ∃ ents : List Ent, ents.length = len1 ∧ len1 ≤ maxLen ∧ Ents W W.heap.size a1 ents ∧ ∀ (i : Nat) e, ents[i]? = some e → EntWf e := by
    obtain ⟨fuel, hf⟩ := h1
    exact open_ents hf
  obtain ⟨a2, rfl, rfl, rfl, w2⟩ := open_string Try.underlying9 (hval 2 9 v2 rfl rfl) h2
  obtain ⟨a3, rfl, rfl, rfl, w3⟩ := open_string Try.underlying9 (hval 3 9 v3 rfl rfl) h3
  obtain ⟨a4, rfl, rfl, rfl, w4⟩ := open_string Try.underlying9 (hval 4 9 v4 rfl rfl) h4
  clear hA0 hval0
  subst hlen
  have wz : -9223372036854775808 ≤ a0 ∧ a0 ≤ 9223372036854775807 := bounds_i64 w0
  have w2' := w2
  have w3' := w3
  have w4' := w4
  unfold maxLen at w2' w3' w4' hmax
  refine (top_any a0 a1 cap1 ents a2 a3 a4 W wz.1 wz.2 (by omega) hents hwf (by omega) (by omega) (by omega)).mono fun e W' ⟨he, bel⟩ => ?_
  subst he
  exact ⟨_, rfl, _, _, _, [], _, [], hW', trodAll_mk1 (shut_bool Try.underlying4 _), (trodAll_cons_mk (shut_int Try.underlying2 w0) (trodAll_cons_mk (Below.trod laidOut (by kernel_rfl) (of_decide_eq_true (by kernel_rfl)) k1 bel lt1) (trodAll_cons_mk (shut_string Try.underlying9 w2) (trodAll_cons_mk (shut_string Try.underlying9 w3) (trodAll_cons_mk (shut_string Try.underlying9 w4) trodAll_mk0))))), rfl, bel.frame _, fun h => by cases h⟩

theorem over : Rows.fnLastingMatchesKeptModelRow.holds Try.pinned (OpenSpec.ofChange Rows.fnLastingMatchesKeptModelSpec) :=
  OpenClaim.holds_of_wide 3 Try.f3 rfl rfl rfl rfl rfl rfl rfl ⟨rfl, rfl, rfl, rfl, rfl⟩ rfl rfl rfl rfl rfl (by kernel_rfl) Try.func3 (by kernel_rfl)
    (of_decide_eq_true (by kernel_rfl)) (by unfold Func.isWrapper; first | (rw [if_pos (by decide +kernel)]; kernel_rfl) | (rw [if_neg (by decide +kernel)]; exact ⟨rfl, rfl⟩))
    (fun os started H enc _ => lifted os started H enc)

/-- ████ THE STATEMENT ████ -/
theorem proved : Rows.FnLastingMatchesKeptModelSaid := over
#print axioms proved
end Go.Proofs.Qxb6609279a.fnLastingMatchesKeptModel
