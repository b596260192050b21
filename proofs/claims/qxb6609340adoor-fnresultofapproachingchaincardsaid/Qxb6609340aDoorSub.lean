import Derived.Test.Qxb6609340aDoorSmall
namespace Go.Proofs.Qxb6609340aDoor
open Go.ChangeShapes Go.WideShapes Go.ChangeAt Go.RowKit
set_option linter.unusedVariables false

theorem less_any (x y : Id) (w : World) (hx : x.wf) (hy : y.wf) : Calls Tryd.prog 22 #[idV x, idV y] w fun e w' => e = .returned (.bool (decide (x.val < y.val))) ∧ Below w.heap.size w w' := by
  have HXY := hide (And.intro hx hy)
  clear hx hy
  go_enter Tryd.func22, Tryd.ntmps22
  go_wp2_with fail
  obtain ⟨w2, hw2⟩ : ∃ z, z = (w.alloc (box x 23)).alloc (box y 23) := ⟨_, rfl⟩
  rw [← hw2]
  have hb2 := hide (show Below w.heap.size w w2 by rw [hw2]; exact ((Below.refl _ _).alloc (Nat.le_refl _) _).alloc (by simp) _)
  have h1 := hide (show IdAt w2 w.heap.size 0 x by rw [hw2]; exact (idAt_new w x 23).alloc (by simp) _)
  have h2 := hide (show IdAt w2 (w.heap.size + 1) 0 y by rw [hw2]; have := idAt_new (w.alloc (box x 23)) y 23; simpa using this)
  have hs : w.heap.size + 1 < w2.heap.size := by rw [hw2]; simp
  clear hw2
  go_loopw [5] (fun i wr => ∃ k : Nat, k ≤ 4 ∧ i = .int .i64 k ∧ Hid (∀ j, j < k → lim x j = lim y j) ∧ Hid (Below w2.heap.size w2 wr)) (fun i _ => 4 - (intOf i).toNat)
  case atStart => exact ⟨0, by omega, rfl, hide (fun j hj => by omega), hide (Below.refl _ _)⟩
  case round =>
    obtain ⟨k, hk, rfl, heq, hbr⟩ := hrel
    by_cases hlt : k < 4
    · have c1 := (h1.out.later hbr.out (by omega)) k hlt
      have c2 := (h2.out.later hbr.out (by omega)) k hlt
      rw [Nat.zero_add] at c1 c2
      obtain ⟨u, hu⟩ : ∃ u, u = lim x k := ⟨_, rfl⟩
      obtain ⟨v, hv⟩ : ∃ v, v = lim y k := ⟨_, rfl⟩
      rw [← hu] at c1
      rw [← hv] at c2
      have HU := hide (And.intro hu hv)
      clear hu hv
      by_cases h : u = v
      · have t : (u == v) = true := by simpa using h
        have HH := hide h
        clear h
        go_wp2
        go_quiet (fail)
        go_wp2
        go_roundw
        case rel =>
          refine ⟨k + 1, by omega, by go_num, hide (fun j hj => ?_), hide (below_drewN hbr.out _)⟩
          by_cases e : j = k
          · subst e
            rw [← HU.out.1, ← HU.out.2, HH.out]
          · exact heq.out j (by omega)
        case measure => simp [intOf]; omega
      · have t : (u == v) = false := by simpa using h
        have HD := hide (show Differ x y k from ⟨hlt, heq.out, by rw [← HU.out.1, ← HU.out.2]; exact h⟩)
        clear h
        go_wp2
        go_quiet (fail)
        go_wp2
        go_quiet (fail)
        go_wp2
        go_ret
        refine ⟨?_, below_drewN (below_drewN (hb2.out.trans (hbr.out.mono hb2.out.size)) _) _⟩
        have e : (u < v) ↔ x.val < y.val := by rw [HU.out.1, HU.out.2]; exact less_of_differ HXY.out.1 HXY.out.2 HD.out
        simp [e]
    · go_wp2
      go_ret
      refine ⟨?_, hb2.out.trans (hbr.out.mono hb2.out.size)⟩
      have e : x = y := eq_of_same (fun j hj => heq.out j (by omega))
      subst e
      simp

/-- One word of the difference, and what is borrowed. -/
def word (x y b : Int) : Int := if x < y + b then x - y - b + 18446744073709551616 else x - y - b
def borrow (x y b : Int) : Int := if x < y + b then 1 else 0

def subI (x y : Id) : Id :=
  let b1 := borrow x.d y.d 0
  let b2 := borrow x.c y.c b1
  let b3 := borrow x.b y.b b2
  ⟨word x.a y.a b3, word x.b y.b b2, word x.c y.c b1, word x.d y.d 0⟩

theorem word_wf {x y b : Int} (hx : U x) (hy : U y) (hb : b = 0 ∨ b = 1) : U (word x y b) := by
  unfold word U at *
  split <;> omega
theorem borrow_bit (x y b : Int) : borrow x y b = 0 ∨ borrow x y b = 1 := by unfold borrow; split <;> simp
theorem word_eq (x y b : Int) : word x y b = x - y - b + 18446744073709551616 * borrow x y b := by unfold word borrow; split <;> omega

theorem subI_is {x y : Id} (hx : x.wf) (hy : y.wf) : IsSub x y (subI x y) := by
  obtain ⟨xa, xb, xc, xd⟩ := x
  obtain ⟨ya, yb, yc, yd⟩ := y
  obtain ⟨hxa, hxb, hxc, hxd⟩ := hx
  obtain ⟨hya, hyb, hyc, hyd⟩ := hy
  simp only at hxa hxb hxc hxd hya hyb hyc hyd
  have b0 : (0 : Int) = 0 ∨ (0 : Int) = 1 := .inl rfl
  refine ⟨⟨word_wf hxa hya (borrow_bit _ _ _), word_wf hxb hyb (borrow_bit _ _ _), word_wf hxc hyc (borrow_bit _ _ _), word_wf hxd hyd b0⟩, ?_⟩
  simp only [subI, Id.val, word_eq, N]
  have h := borrow_bit xa ya (borrow xb yb (borrow xc yc (borrow xd yd 0)))
  omega
end Go.Proofs.Qxb6609340aDoor
