import Derived.Test.Qxb6609340aDoorRow
import Derived.Test.Qxb6609340aDoorEq
namespace Go.Proofs.Qxb6609340aDoor
open Go.ChangeShapes Go.WideShapes Go.ChangeAt Go.RowKit
set_option linter.unusedVariables false

/-- A slice of ids that is only read: nil or not, its elements are 'ids', all of it below block B. -/
def Ids (w : World) (B : Nat) (v : Value) (ids : List Id) : Prop := ∃ a c, v = .slice a ids.length c ∧ ∀ k x, ids[k]? = some x → ∃ b off, a = some ⟨b, off, none⟩ ∧ b < B ∧ IdAt w b (off + k * 4) x
theorem Ids.later {w w' : World} {B B' : Nat} {v : Value} {ids : List Id} (h : Ids w B v ids) (hb : Below B w w') (hB : B ≤ B') : Ids w' B' v ids := by
  obtain ⟨a, c, rfl, h⟩ := h
  refine ⟨a, c, rfl, fun k x hk => ?_⟩
  obtain ⟨b, off, rfl, hlt, hi⟩ := h k x hk
  exact ⟨b, off, rfl, by omega, hi.later hb hlt⟩
theorem Row.ids {w : World} {v : Value} {ids : List Id} (h : Row w v ids) : Ids w w.heap.size v ids := by
  rcases h with ⟨rfl, rfl⟩ | ⟨g, cap, rfl, hg, h1, h2, h3, h4⟩
  · exact ⟨none, 0, rfl, fun k x hk => by simp at hk⟩
  · exact ⟨_, cap, rfl, fun k x hk => ⟨g, 0, rfl, hg, by rw [Nat.zero_add]; exact h4 k x hk⟩⟩

theorem index_any (v : Value) (ids : List Id) (x : Id) (w : World) (hn : ids.length ≤ 1000000) (h : Ids w w.heap.size v ids) :
    Calls Tryd.prog 26 #[v, idV x] w fun e w' => ∃ r : Int, e = .returned (.int .i64 r) ∧ (0 ≤ r ↔ x ∈ ids) ∧ Below w.heap.size w w' := by
  have HI := hide h
  obtain ⟨a, c, rfl, _⟩ := h
  go_enter Tryd.func26, Tryd.ntmps26
  go_wp2_with fail
  obtain ⟨w2, hw2⟩ : ∃ z, z = w.alloc (box x 27) := ⟨_, rfl⟩
  rw [← hw2]
  have hb2 := hide (show Below w.heap.size w w2 by rw [hw2]; exact (Below.refl _ _).alloc (Nat.le_refl _) _)
  have h1 := hide (show IdAt w2 w.heap.size 0 x by rw [hw2]; exact idAt_new w x 27)
  have hs : w.heap.size < w2.heap.size := by rw [hw2]; simp
  clear hw2
  go_loopw [5, 8] (fun _ i wr => ∃ k : Nat, k ≤ ids.length ∧ i = .int .i64 k ∧ Hid (∀ j y, j < k → ids[j]? = some y → y ≠ x) ∧ Hid (Below w2.heap.size w2 wr)) (fun _ i _ => ids.length - (intOf i).toNat)
  case atStart => exact ⟨0, Nat.zero_le _, rfl, hide (fun j y hj => by omega), hide (Below.refl _ _)⟩
  case round =>
    obtain ⟨k, hk, rfl, hno, hbr⟩ := hrel
    by_cases hlt : k < ids.length
    · obtain ⟨y, hy⟩ : ∃ y, ids[k]? = some y := ⟨_, List.getElem?_eq_getElem hlt⟩
      obtain ⟨a', c', he, hall⟩ := HI.out.later (hb2.out.trans (hbr.out.mono hb2.out.size)) (Nat.le_refl _)
      simp at he
      obtain ⟨rfl, rfl⟩ := he
      obtain ⟨b, off, rfl, hb, hi⟩ := hall k y hy
      obtain ⟨y0, y1, y2, y3⟩ := hi.cellsAt
      obtain ⟨x0, x1, x2, x3⟩ := (h1.out.later hbr.out hs).cells0
      have HY := hide hy
      clear hy hall hi
      by_cases hxy : x = y
      · have t : same4 x.a x.b x.c x.d y.a y.b y.c y.d = true := by rw [same4_ids]; simpa using hxy
        have HH := hide hxy
        clear hxy
        go_wp2
        go_quiet (fail)
        go_wp2
        go_ret
        refine ⟨k, rfl, ⟨fun _ => ?_, fun _ => by omega⟩, below_drewN (hb2.out.trans (hbr.out.mono hb2.out.size)) _⟩
        rw [HH.out]
        exact List.mem_of_getElem? HY.out
      · have t : same4 x.a x.b x.c x.d y.a y.b y.c y.d = false := by rw [same4_ids]; simpa using hxy
        have HH := hide (show y ≠ x from fun e => hxy e.symm)
        clear hxy
        go_wp2
        go_quiet (fail)
        go_wp2
        go_roundw
        case rel =>
          refine ⟨k + 1, by omega, by go_num, hide (fun j z hj hz => ?_), hide (below_drewN hbr.out _)⟩
          by_cases e : j = k
          · subst e
            rw [HY.out] at hz
            cases hz
            exact HH.out
          · exact hno.out j z (by omega) hz
        case measure => simp [intOf]; omega
    · go_wp2
      go_ret
      refine ⟨-1, rfl, ⟨fun h => by omega, fun h => ?_⟩, hb2.out.trans (hbr.out.mono hb2.out.size)⟩
      obtain ⟨j, hj⟩ := List.mem_iff_getElem?.1 h
      exact absurd rfl (hno.out j x (by have := (List.getElem?_eq_some_iff.1 hj).1; omega) hj)

theorem contains_any (v : Value) (ids : List Id) (x : Id) (w : World) (hn : ids.length ≤ 1000000) (h : Ids w w.heap.size v ids) :
    Calls Tryd.prog 20 #[v, idV x] w fun e w' => e = .returned (.bool (decide (x ∈ ids))) ∧ Below w.heap.size w w' := by
  have HI := hide h
  obtain ⟨a, c, rfl, _⟩ := h
  go_enter Tryd.func20, Tryd.ntmps20
  go_wp2_with fail
  refine (index_any _ ids x _ hn (HI.out.later ((Below.refl _ _).alloc (Nat.le_refl _) _) (by simp))).mono ?_
  rintro e w1 ⟨r, rfl, hr, hb⟩
  have HR := hide hr
  have HB := hide (show Below w.heap.size w w1 from ((Below.refl _ _).alloc (Nat.le_refl _) _).trans (hb.mono (by simp)))
  clear hr hb
  go_wp2
  go_ret
  refine ⟨?_, HB.out⟩
  have := HR.out
  simp [this]
end Go.Proofs.Qxb6609340aDoor
