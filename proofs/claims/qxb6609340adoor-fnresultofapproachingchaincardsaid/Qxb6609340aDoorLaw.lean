import Derived.Test.Qxb6609340aDoorAside
import Derived.Test.Qxb6609340aDoorIndex
namespace Go.Proofs.Qxb6609340aDoor
open Go.ChangeShapes Go.WideShapes Go.ChangeAt Go.RowKit
set_option linter.unusedVariables false
set_option linter.unusedSimpArgs false

theorem Tryd.info23 : (Tryd.prog.info? 23).map (fun i => (i.zero, i.size, i.bytes)) = some (some (.agg #[.int .u64 0, .int .u64 0, .int .u64 0, .int .u64 0]), 4, 32) := by kernel_rfl

/-- 'append(row, x)' in a region that does not draw. -/
theorem wpList_push {ops : Array Oper} {rest : List Oper} {o : Oper} {a : Act} {w : World} {Q : Exit → Act → World → Prop}
    (hg : o.guard = none) (s x : Operand) (hop : o.op = Op.call { callee := Callee.builtin Builtin.append, args := #[s, x], argTypes := #[37, 37] })
    (v : Value) (ids : List Id) (y : Id) (hs : a.eval s = v) (hrow : Row w v ids) (hlen : ids.length ≤ 1000000)
    (ad : Addr) (c : Nat) (hx : a.eval x = .slice (some ad) 1 c) (hc : ∀ j, j < 4 → w.cell? (ad.add j) = some (.int .u64 (lim y j)))
    (hK : ∀ g cap w', Row w' (.slice (some ⟨g, 0, none⟩) (ids.length + 1) cap) (ids ++ [y]) → w.grownBy w' v.ownBlock → (v.ownBlock = some g ∨ w.heap.size ≤ g) → wpList Tryd.prog ops Q rest (a.put o.dst (.slice (some ⟨g, 0, none⟩) (ids.length + 1) cap)) w') :
    wpList Tryd.prog ops Q (o :: rest) a w := by
  obtain ⟨i0, hi, hz0, hz1, hz2⟩ := info_parts Tryd.info23
  refine wpList_plain hg fun K hk => ?_
  have h := step_push (P := Tryd.prog) (ops := ops) (o := o) (a := a) (w := w) (K := K) (Q := Q) (E := True) hg s x 37 hop 23 i0 _ Tryd.underlying37 hi hz0 hz1 hz2 rfl v ids y hs hrow hlen ad c hx hc (fun g cap w' h1 h2 h3 => hk _ _ (hK g cap w' h1 h2 h3))
  rwa [if_pos (by simp [Region.wanted, hg])] at h

/-- A walker whose own blocks were not touched. -/
theorem Walk.outside {w w' : World} {F : Nat → Prop} {bw : Nat} {key : Id} {path avoid : List Id} {done bad : Bool} (h : Walk w F bw key path avoid done bad) (hs : w.heap.size ≤ w'.heap.size) (hb : ∀ k, k < w.heap.size → F k → w'.heap[k]? = w.heap[k]?) : Walk w' F bw key path avoid done bad := by
  obtain ⟨h1, h2, vp, va, ev, h3, h4, h5, h6, h7, h8, h9⟩ := h
  exact ⟨h1, by omega, vp, va, ev, h3, h4.kept (hb bw h2 h1), h5.kept hs (fun g hg => hb g (h5.lt hg) (h7 g hg).1), h6.kept hs (fun g hg => hb g (h6.lt hg) (h8 g hg).1), h7, h8, h9⟩

/-- zzContains. -/
theorem zzContains_any (v : Value) (ids : List Id) (x : Id) (w : World) (hn : ids.length ≤ 1000000) (h : Ids w w.heap.size v ids) :
    Calls Tryd.prog 14 #[v, idV x] w fun e w' => e = .returned (.bool (decide (x ∈ ids))) ∧ Below w.heap.size w w' := by
  have HI := hide h
  obtain ⟨a, c, rfl, _⟩ := h
  go_enter Tryd.func14, Tryd.ntmps14
  go_wp2_with fail
  obtain ⟨w2, hw2⟩ : ∃ z, z = w.alloc (box x 23) := ⟨_, rfl⟩
  rw [← hw2]
  have hb2 := hide (show Below w.heap.size w w2 by rw [hw2]; exact (Below.refl _ _).alloc (Nat.le_refl _) _)
  have h1 := hide (show IdAt w2 w.heap.size 0 x by rw [hw2]; exact idAt_new w x 23)
  have hs : w.heap.size < w2.heap.size := by rw [hw2]; simp
  clear hw2
  go_loopw [5] (fun i wr => ∃ k : Nat, k ≤ ids.length ∧ i = .int .i64 k ∧ Hid (∀ j y, j < k → ids[j]? = some y → y ≠ x) ∧ Hid (Below w2.heap.size w2 wr)) (fun i _ => ids.length - (intOf i).toNat)
  case atStart => exact ⟨0, Nat.zero_le _, rfl, hide (fun j y hj => by omega), hide (Below.refl _ _)⟩
  case round =>
    obtain ⟨k, hk, rfl, hno, hbr⟩ := hrel
    by_cases hlt : k < ids.length
    · obtain ⟨y, hy⟩ : ∃ y, ids[k]? = some y := ⟨_, List.getElem?_eq_getElem hlt⟩
      obtain ⟨a', c', he, hall⟩ := HI.out.later (hb2.out.trans (hbr.out.mono hb2.out.size)) (Nat.le_refl _)
      simp at he
      obtain ⟨rfl, rfl⟩ := he
      obtain ⟨b, off, rfl, hb, hi⟩ := hall k y hy
      obtain ⟨y0, y1, y2, y3⟩ := hi.cellsAt
      obtain ⟨x0, x1, x2, x3⟩ := (h1.out.later hbr.out hs).cells0
      have HY := hide hy
      clear hy hall hi
      by_cases hxy : y = x
      · have t : same4 y.a y.b y.c y.d x.a x.b x.c x.d = true := by rw [same4_ids]; simpa using hxy
        have HH := hide hxy
        clear hxy
        go_wp2
        go_quiet (fail)
        go_wp2
        go_ret
        have hm : y ∈ ids := List.mem_of_getElem? HY.out
        rw [HH.out] at hm
        exact ⟨by simp [hm], below_drewN (hb2.out.trans (hbr.out.mono hb2.out.size)) _⟩
      · have t : same4 y.a y.b y.c y.d x.a x.b x.c x.d = false := by rw [same4_ids]; simpa using hxy
        have HH := hide hxy
        clear hxy
        go_wp2
        go_quiet (fail)
        go_wp2
        go_roundw
        case rel =>
          refine ⟨k + 1, by omega, by go_num, hide (fun j z hj hz => ?_), hide (below_drewN hbr.out _)⟩
          by_cases e : j = k
          · subst e
            rw [HY.out] at hz
            cases hz
            exact HH.out
          · exact hno.out j z (by omega) hz
        case measure => simp [intOf]; omega
    · go_wp2
      go_ret
      have hm : x ∉ ids := fun h => by
        obtain ⟨j, hj⟩ := List.mem_iff_getElem?.1 h
        exact absurd rfl (hno.out j x (by have := (List.getElem?_eq_some_iff.1 hj).1; omega) hj)
      exact ⟨by simp [hm], hb2.out.trans (hbr.out.mono hb2.out.size)⟩

/-- The bound on the lengths (function 13). -/
theorem bytes13_any (x y : Id) (a b : Option Addr) (n c m c' : Nat) (w : World) :
    Calls Tryd.prog 13 #[idV x, idV y, .slice a n c, .slice b m c'] w fun e w' => (∃ r, e = .returned (.bool r) ∧ (n ≤ 4096 → m ≤ 4096 → r = true)) ∧ Below w.heap.size w w' := by
  have hb := hide (((Below.refl w.heap.size w).alloc (Nat.le_refl _) (box x 23)).alloc (by simp) (box y 23))
  by_cases h1 : n ≤ 1048576
  · by_cases h2 : m ≤ 1048576
    · by_cases h3 : n + m ≤ 1048576
      · go_enter Tryd.func13, Tryd.ntmps13
        go_wp2
        go_ret
        exact ⟨⟨true, rfl, fun _ _ => rfl⟩, hb.out⟩
      · go_enter Tryd.func13, Tryd.ntmps13
        go_wp2
        go_ret
        exact ⟨⟨false, rfl, fun _ _ => by omega⟩, hb.out⟩
    · go_enter Tryd.func13, Tryd.ntmps13
      go_wp2
      go_ret
      exact ⟨⟨false, rfl, fun _ _ => by omega⟩, hb.out⟩
  · go_enter Tryd.func13, Tryd.ntmps13
    go_wp2
    go_ret
    exact ⟨⟨false, rfl, fun _ _ => by omega⟩, hb.out⟩

/-- The bound on the length (function 17). -/
theorem bytes17_any (x y z : Id) (a : Option Addr) (n c : Nat) (w : World) :
    Calls Tryd.prog 17 #[idV x, idV y, .slice a n c, idV z] w fun e w' => (∃ r, e = .returned (.bool r) ∧ (n ≤ 4096 → r = true)) ∧ Below w.heap.size w w' := by
  have hb := hide (boxes3 w x y z 23).2.2.2.2
  by_cases h1 : n ≤ 1048576
  · go_enter Tryd.func17, Tryd.ntmps17
    go_wp2
    go_ret
    exact ⟨⟨true, rfl, fun _ => rfl⟩, hb.out⟩
  · go_enter Tryd.func17, Tryd.ntmps17
    go_wp2
    go_ret
    exact ⟨⟨false, rfl, fun _ => by omega⟩, hb.out⟩
end Go.Proofs.Qxb6609340aDoor
