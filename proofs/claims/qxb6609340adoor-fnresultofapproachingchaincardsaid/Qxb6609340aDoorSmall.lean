import Derived.Test.Qxb6609340aDoorPlain
import Derived.WalkSpells
import Derived.WalkLawsBesides
import Derived.Below
import Derived.Deep.Light
import Derived.Deep.RegionWith
import Derived.BigQuiet
import Derived.BigRegion
import Derived.OwnWalk
import Derived.Laws.OwnMore
namespace Go.Proofs.Qxb6609340aDoor
open Go.ChangeShapes Go.WideShapes Go.ChangeAt Go.RowKit
set_option linter.unusedVariables false

theorem newID_any (x : Id) (w : World) : Calls Tryd.prog 8 #[idV x] w fun r w' => r = .returned (idV x) ∧ Below w.heap.size w w' := by
  go_enter Tryd.func8, Tryd.ntmps8
  go_wp2
  refine bodyPost_ret (v := idV x) (by simp [results, Tryd.results8, go_sem]) rfl ⟨rfl, ?_⟩
  exact ((Below.refl _ _).alloc (Nat.le_refl _) _).alloc (by simp) _

theorem words_any (x : Id) (w : World) : Calls Tryd.prog 10 #[idV x] w fun r w' => r = .returned (idV x) ∧ Below w.heap.size w w' := by
  go_enter Tryd.func10, Tryd.ntmps10
  go_wp2
  refine bodyPost_ret (v := idV x) (by simp [results, Tryd.results10, go_sem]) rfl ⟨rfl, ?_⟩
  exact ((Below.refl _ _).alloc (Nat.le_refl _) _).alloc (by simp) _

/-- An id's four cells at block b from off on. -/
def IdAt (w : World) (b off : Nat) (x : Id) : Prop := ∀ k, k < 4 → w.cell? ⟨b, off + k, none⟩ = some (.int .u64 (lim x k))

theorem idAt_new (w : World) (x : Id) (t : TypeId) : IdAt (w.alloc (.cells #[.int .u64 x.a, .int .u64 x.b, .int .u64 x.c, .int .u64 x.d] t)) w.heap.size 0 x := by
  intro k hk
  match k, hk with
  | 0, _ => go_simp; rfl
  | 1, _ => go_simp; rfl
  | 2, _ => go_simp; rfl
  | 3, _ => go_simp; rfl
theorem IdAt.later {w w' : World} {b off B : Nat} {x : Id} (h : IdAt w b off x) (hb : Below B w w') (hlt : b < B) : IdAt w' b off x := fun k hk => (hb.cell (p := ⟨b, off + k, none⟩) hlt).trans (h k hk)

theorem IdAt.cells0 {w : World} {b : Nat} {x : Id} (h : IdAt w b 0 x) : w.cell? ⟨b, 0, none⟩ = some (.int .u64 x.a) ∧ w.cell? ⟨b, 1, none⟩ = some (.int .u64 x.b) ∧ w.cell? ⟨b, 2, none⟩ = some (.int .u64 x.c) ∧ w.cell? ⟨b, 3, none⟩ = some (.int .u64 x.d) :=
  ⟨h 0 (by omega), h 1 (by omega), h 2 (by omega), h 3 (by omega)⟩
theorem IdAt.cellsAt {w : World} {b off : Nat} {x : Id} (h : IdAt w b off x) : w.cell? ⟨b, off, none⟩ = some (.int .u64 x.a) ∧ w.cell? ⟨b, off + 1, none⟩ = some (.int .u64 x.b) ∧ w.cell? ⟨b, off + 2, none⟩ = some (.int .u64 x.c) ∧ w.cell? ⟨b, off + 3, none⟩ = some (.int .u64 x.d) :=
  ⟨h 0 (by omega), h 1 (by omega), h 2 (by omega), h 3 (by omega)⟩
abbrev box (x : Id) (t : TypeId) : Obj := .cells #[.int .u64 x.a, .int .u64 x.b, .int .u64 x.c, .int .u64 x.d] t
theorem IdAt.alloc {w : World} {b off : Nat} {x : Id} (h : IdAt w b off x) (hlt : b < w.heap.size) (o : Obj) : IdAt (w.alloc o) b off x := h.later ((Below.refl w.heap.size w).alloc (Nat.le_refl _) o) hlt

/-- Three boxes laid one behind the other. -/
theorem boxes3 (w : World) (x y z : Id) (t : TypeId) : IdAt (((w.alloc (box x t)).alloc (box y t)).alloc (box z t)) w.heap.size 0 x ∧ IdAt (((w.alloc (box x t)).alloc (box y t)).alloc (box z t)) (w.heap.size + 1) 0 y ∧
    IdAt (((w.alloc (box x t)).alloc (box y t)).alloc (box z t)) (w.heap.size + 1 + 1) 0 z ∧ (((w.alloc (box x t)).alloc (box y t)).alloc (box z t)).heap.size = w.heap.size + 1 + 1 + 1 ∧ Below w.heap.size w (((w.alloc (box x t)).alloc (box y t)).alloc (box z t)) := by
  have e1 : (w.alloc (box x t)).heap.size = w.heap.size + 1 := by simp
  have e2 : ((w.alloc (box x t)).alloc (box y t)).heap.size = w.heap.size + 1 + 1 := by simp
  refine ⟨((idAt_new w x t).alloc (by simp) _).alloc (by simp; omega) _, ?_, ?_, by simp, (((Below.refl _ _).alloc (Nat.le_refl _) _).alloc (by omega) _).alloc (by omega) _⟩
  · have h := (idAt_new (w.alloc (box x t)) y t).alloc (by rw [e2, e1]; omega) (box z t)
    rwa [e1] at h
  · have h := idAt_new ((w.alloc (box x t)).alloc (box y t)) z t
    rwa [e2] at h

def CmpPost (x y : Id) (r : Int) : Prop := (r = 0 ∧ ∀ j, j < 4 → lim x j = lim y j) ∨ ∃ k, Differ x y k ∧ r = if lim x k < lim y k then -1 else 1

theorem cmp_any (x y : Id) (w : World) : Calls Tryd.prog 25 #[idV x, idV y] w fun e w' => ∃ r, e = .returned (.int .i64 r) ∧ CmpPost x y r ∧ Below w.heap.size w w' := by
  go_enter Tryd.func25, Tryd.ntmps25
  go_wp2_with fail
  obtain ⟨w2, hw2⟩ : ∃ z, z = (w.alloc (.cells #[.int .u64 x.a, .int .u64 x.b, .int .u64 x.c, .int .u64 x.d] 27)).alloc (.cells #[.int .u64 y.a, .int .u64 y.b, .int .u64 y.c, .int .u64 y.d] 27) := ⟨_, rfl⟩
  rw [← hw2]
  have hb2 := hide (show Below w.heap.size w w2 by rw [hw2]; exact ((Below.refl _ _).alloc (Nat.le_refl _) _).alloc (by simp) _)
  have h1 := hide (show IdAt w2 w.heap.size 0 x by rw [hw2]; exact (idAt_new w x 27).later ((Below.refl (w.heap.size + 1) _).alloc (by simp) _) (by omega))
  have h2 := hide (show IdAt w2 (w.heap.size + 1) 0 y by rw [hw2]; have := idAt_new (w.alloc (.cells #[.int .u64 x.a, .int .u64 x.b, .int .u64 x.c, .int .u64 x.d] 27)) y 27; simpa using this)
  have hs : w.heap.size + 1 < w2.heap.size := by rw [hw2]; simp
  clear hw2
  go_loopw [5, 6] (fun _ i wr => ∃ k : Nat, k ≤ 4 ∧ i = .int .i64 k ∧ Hid (∀ j, j < k → lim x j = lim y j) ∧ Hid (Below w2.heap.size w2 wr)) (fun _ i _ => 4 - (intOf i).toNat)
  case atStart => exact ⟨0, by omega, rfl, hide (fun j hj => by omega), hide (Below.refl _ _)⟩
  case round =>
    obtain ⟨k, hk, rfl, heq, hbr⟩ := hrel
    by_cases hlt : k < 4
    · have c1 := (h1.out.later hbr.out (by omega)) k hlt
      have c2 := (h2.out.later hbr.out (by omega)) k hlt
      rw [Nat.zero_add] at c1 c2
      obtain ⟨u, hu⟩ : ∃ u, u = lim x k := ⟨_, rfl⟩
      obtain ⟨v, hv⟩ : ∃ v, v = lim y k := ⟨_, rfl⟩
      rw [← hu] at c1
      rw [← hv] at c2
      have HU := hide (And.intro hu hv)
      clear hu hv
      by_cases h : u = v
      · have t : (u == v) = true := by simpa using h
        have HH := hide h
        clear h
        go_wp2
        go_quiet (fail)
        go_wp2
        go_roundw
        case rel =>
          refine ⟨k + 1, by omega, by go_num, hide (fun j hj => ?_), hide (below_drewN hbr.out _)⟩
          by_cases e : j = k
          · subst e
            rw [← HU.out.1, ← HU.out.2, HH.out]
          · exact heq.out j (by omega)
        case measure => simp [intOf]; omega
      · have t : (u == v) = false := by simpa using h
        have HD := hide (show Differ x y k from ⟨hlt, heq.out, by rw [← HU.out.1, ← HU.out.2]; exact h⟩)
        clear h
        by_cases hl : u < v
        · have HL := hide hl
          go_wp2
          go_quiet (fail)
          go_wp2
          go_quiet (fail)
          go_wp2
          go_ret
          exact ⟨_, rfl, .inr ⟨k, HD.out, by rw [← HU.out.1, ← HU.out.2, if_pos HL.out]⟩, below_drewN (below_drewN (hb2.out.trans (hbr.out.mono hb2.out.size)) _) _⟩
        · have HL := hide hl
          go_wp2
          go_quiet (fail)
          go_wp2
          go_quiet (fail)
          go_wp2
          go_ret
          exact ⟨_, rfl, .inr ⟨k, HD.out, by rw [← HU.out.1, ← HU.out.2, if_neg (by omega)]⟩, below_drewN (below_drewN (hb2.out.trans (hbr.out.mono hb2.out.size)) _) _⟩
    · go_wp2
      go_ret
      exact ⟨0, rfl, .inl ⟨rfl, fun j hj => heq.out j (by omega)⟩, hb2.out.trans (hbr.out.mono hb2.out.size)⟩

theorem cmp_val (x y : Id) (w : World) (hx : x.wf) (hy : y.wf) : Calls Tryd.prog 25 #[idV x, idV y] w fun e w' => ∃ r, e = .returned (.int .i64 r) ∧ (r < 0 ↔ x.val < y.val) ∧ Below w.heap.size w w' := by
  refine (cmp_any x y w).mono ?_
  rintro e w' ⟨r, rfl, h, hb⟩
  refine ⟨r, rfl, ?_, hb⟩
  rcases h with ⟨rfl, h⟩ | ⟨k, hd, rfl⟩
  · rw [eq_of_same h]
    omega
  · rw [← less_of_differ hx hy hd]
    split <;> omega

set_option maxHeartbeats 800000 in
theorem inOpen_any (x a b : Id) (w : World) (hx : x.wf) (ha : a.wf) (hb : b.wf) : Calls Tryd.prog 19 #[idV x, idV a, idV b] w fun e w' => e = .returned (.bool (decide (InOpen x a b))) ∧ Below w.heap.size w w' := by
  have C := fun x y w hx hy => cmp_val x y w hx hy
  have HX := hide hx
  have HA := hide ha
  have HB := hide hb
  go_enter Tryd.func19, Tryd.ntmps19
  go_wp2_with fail
  obtain ⟨w3, hw3⟩ : ∃ z, z = ((w.alloc (.cells #[.int .u64 x.a, .int .u64 x.b, .int .u64 x.c, .int .u64 x.d] 27)).alloc (.cells #[.int .u64 a.a, .int .u64 a.b, .int .u64 a.c, .int .u64 a.d] 27)).alloc (.cells #[.int .u64 b.a, .int .u64 b.b, .int .u64 b.c, .int .u64 b.d] 27) := ⟨_, rfl⟩
  rw [← hw3]
  obtain ⟨b1, b2, b3, hs3, hb3⟩ : IdAt w3 w.heap.size 0 x ∧ IdAt w3 (w.heap.size + 1) 0 a ∧ IdAt w3 (w.heap.size + 1 + 1) 0 b ∧ w3.heap.size = w.heap.size + 1 + 1 + 1 ∧ Below w.heap.size w w3 := by
    rw [hw3]; exact boxes3 w x a b 27
  have B1 := hide b1
  have B2 := hide b2
  have B3 := hide b3
  have HB3 := hide hb3
  clear hw3 b1 b2 b3 hb3 hx ha hb
  refine (C a b w3 HA.out HB.out).mono ?_
  rintro e w4 ⟨r, rfl, hr, hb4⟩
  obtain ⟨x0, x1, x2, x3⟩ := (B1.out.later hb4 (by omega)).cells0
  obtain ⟨y0, y1, y2, y3⟩ := (B2.out.later hb4 (by omega)).cells0
  have HB4 := hide hb4
  by_cases h1 : a.val < b.val
  · have hr1 : r < 0 := hr.2 h1
    have H1 := hide h1
    clear hr h1 hb4
    go_wp2_with fail
    refine (C a x w4 HA.out HX.out).mono ?_
    rintro e w5 ⟨r2, rfl, hr2, hb5⟩
    have HB5 := hide (HB4.out.trans (hb5.mono HB4.out.size))
    clear x0 x1 x2 x3 y0 y1 y2 y3 hb5
    obtain ⟨x0, x1, x2, x3⟩ := (B1.out.later HB5.out (by omega)).cells0
    obtain ⟨z0, z1, z2, z3⟩ := (B3.out.later HB5.out (by omega)).cells0
    by_cases h2 : a.val < x.val
    · have hr3 : r2 < 0 := hr2.2 h2
      have H2 := hide h2
      clear hr2 h2
      go_wp2_with fail
      refine (C x b w5 HX.out HB.out).mono ?_
      rintro e w6 ⟨r3, rfl, hr4, hb6⟩
      have HB6 := hide (HB5.out.trans (hb6.mono HB5.out.size))
      have HR4 := hide hr4
      clear hr4 hb6
      go_wp2
      go_ret
      refine ⟨?_, HB3.out.trans (HB6.out.mono HB3.out.size)⟩
      have : InOpen x a b ↔ r3 < 0 := by unfold InOpen; rw [if_pos H1.out, HR4.out]; exact ⟨fun h => h.2, fun h => ⟨H2.out, h⟩⟩
      simp [this]
    · have hr3 : ¬ r2 < 0 := fun h => h2 (hr2.1 h)
      have H2 := hide h2
      clear hr2 h2
      go_wp2
      go_ret
      refine ⟨?_, HB3.out.trans (HB5.out.mono HB3.out.size)⟩
      have : ¬ InOpen x a b := by unfold InOpen; rw [if_pos H1.out]; intro h; have := H2.out; omega
      simp [this]
  · have hr1 : ¬ r < 0 := fun h => h1 (hr.1 h)
    have H1 := hide h1
    clear hr h1 hb4
    go_wp2_with fail
    refine (C a x w4 HA.out HX.out).mono ?_
    rintro e w5 ⟨r2, rfl, hr2, hb5⟩
    have HB5 := hide (HB4.out.trans (hb5.mono HB4.out.size))
    clear x0 x1 x2 x3 y0 y1 y2 y3 hb5
    obtain ⟨x0, x1, x2, x3⟩ := (B1.out.later HB5.out (by omega)).cells0
    obtain ⟨z0, z1, z2, z3⟩ := (B3.out.later HB5.out (by omega)).cells0
    by_cases h2 : a.val < x.val
    · have hr3 : r2 < 0 := hr2.2 h2
      have H2 := hide h2
      clear hr2 h2
      go_wp2
      go_ret
      refine ⟨?_, HB3.out.trans (HB5.out.mono HB3.out.size)⟩
      have : InOpen x a b := by unfold InOpen; rw [if_neg (by have := H1.out; omega)]; exact .inl H2.out
      simp [this]
    · have hr3 : ¬ r2 < 0 := fun h => h2 (hr2.1 h)
      have H2 := hide h2
      clear hr2 h2
      go_wp2_with fail
      refine (C x b w5 HX.out HB.out).mono ?_
      rintro e w6 ⟨r3, rfl, hr4, hb6⟩
      have HB6 := hide (HB5.out.trans (hb6.mono HB5.out.size))
      have HR4 := hide hr4
      clear hr4 hb6
      go_wp2
      go_ret
      refine ⟨?_, HB3.out.trans (HB6.out.mono HB3.out.size)⟩
      have : InOpen x a b ↔ r3 < 0 := by unfold InOpen; rw [if_neg (by have := H1.out; omega), HR4.out]; exact ⟨fun h => h.resolve_left (by have := H2.out; omega), fun h => .inr h⟩
      simp [this]
      omega
end Go.Proofs.Qxb6609340aDoor
