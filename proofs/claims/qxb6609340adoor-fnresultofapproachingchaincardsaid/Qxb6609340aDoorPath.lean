import Derived.Test.Qxb6609340aDoorIndex
import Derived.Test.Qxb6609340aDoorBack
import Derived.Deep.RegionHeld3
namespace Go.Proofs.Qxb6609340aDoor
open Go.ChangeShapes Go.WideShapes Go.ChangeAt Go.RowKit
set_option linter.unusedVariables false
set_option linter.unusedSimpArgs false

set_option maxRecDepth 100000 in
set_option maxHeartbeats 1600000 in
/-- zzPathIs. -/
theorem pathIs_any (v u : Value) (ids ws : List Id) (w : World) (hn : ids.length ≤ 1000000) (hm : ws.length ≤ 1000000) (h : Ids w w.heap.size v ids) (h' : Ids w w.heap.size u ws) :
    Calls Tryd.prog 16 #[v, u] w fun e w' => e = .returned (.bool (decide (ids = ws))) ∧ Below w.heap.size w w' := by
  have HI := hide h
  have HJ := hide h'
  obtain ⟨a, c, rfl, _⟩ := h
  obtain ⟨a', c', rfl, _⟩ := h'
  by_cases hl : ids.length = ws.length
  · rw [← hl]
    have HL := hide hl
    clear hl hm
    go_enter Tryd.func16, Tryd.ntmps16
    go_wp2_with fail
    go_loopw [5] (fun i wr => ∃ k : Nat, k ≤ ids.length ∧ i = .int .i64 k ∧ Hid (∀ j, j < k → ids[j]? = ws[j]?) ∧ Hid (Below w.heap.size w wr)) (fun i _ => ids.length - (intOf i).toNat)
    case atStart => exact ⟨0, Nat.zero_le _, rfl, hide (fun j hj => by omega), hide (Below.refl _ _)⟩
    case round =>
      rename World => wr
      obtain ⟨k, hk, rfl, hno, hbr⟩ := hrel
      by_cases hlt : k < ids.length
      · obtain ⟨y, hy⟩ : ∃ y, ids[k]? = some y := ⟨_, List.getElem?_eq_getElem hlt⟩
        obtain ⟨z, hz⟩ : ∃ z, ws[k]? = some z := ⟨_, List.getElem?_eq_getElem (by rw [← HL.out]; exact hlt)⟩
        obtain ⟨a1, c1, he, hall⟩ := HI.out.later hbr.out (Nat.le_refl _)
        simp at he
        obtain ⟨rfl, rfl⟩ := he
        obtain ⟨b, off, rfl, hb, hi⟩ := hall k y hy
        obtain ⟨a1, c1, he, hall'⟩ := HJ.out.later hbr.out (Nat.le_refl _)
        simp at he
        obtain ⟨rfl, rfl⟩ := he
        obtain ⟨b1, off1, rfl, hb1, hj⟩ := hall' k z hz
        have hb := Nat.lt_of_lt_of_le hb hbr.out.size
        have hb1 := Nat.lt_of_lt_of_le hb1 hbr.out.size
        have HY := hide hi
        have HZ := hide hj
        have HY2 := hide hy
        have HZ2 := hide hz
        clear hall hall' hi hj hy hz
        by_cases hyz : y = z
        · have t : same4 y.a y.b y.c y.d z.a z.b z.c z.d = true := by rw [same4_ids]; simpa using hyz
          have HH := hide hyz
          clear hyz
          go_upto_region 6 with fail
          have MK := hide (show ∀ W, Below wr.heap.size wr W → (Below wr.heap.size wr W ∧ (W.cell? ⟨b, off + k * 4, none⟩ = some (.int .u64 y.a) ∧ W.cell? ⟨b, off + k * 4 + 1, none⟩ = some (.int .u64 y.b) ∧ W.cell? ⟨b, off + k * 4 + 2, none⟩ = some (.int .u64 y.c) ∧ W.cell? ⟨b, off + k * 4 + 3, none⟩ = some (.int .u64 y.d)) ∧ (W.cell? ⟨b1, off1 + k * 4, none⟩ = some (.int .u64 z.a) ∧ W.cell? ⟨b1, off1 + k * 4 + 1, none⟩ = some (.int .u64 z.b) ∧ W.cell? ⟨b1, off1 + k * 4 + 2, none⟩ = some (.int .u64 z.c) ∧ W.cell? ⟨b1, off1 + k * 4 + 3, none⟩ = some (.int .u64 z.d))) from fun W hW => ⟨hW, (HY.out.later hW hb).cellsAt, (HZ.out.later hW hb1).cellsAt⟩)
          refine wp_region_held_drew (S := fun W => Below wr.heap.size wr W ∧ (W.cell? ⟨b, off + k * 4, none⟩ = some (.int .u64 y.a) ∧ W.cell? ⟨b, off + k * 4 + 1, none⟩ = some (.int .u64 y.b) ∧ W.cell? ⟨b, off + k * 4 + 2, none⟩ = some (.int .u64 y.c) ∧ W.cell? ⟨b, off + k * 4 + 3, none⟩ = some (.int .u64 y.d)) ∧ (W.cell? ⟨b1, off1 + k * 4, none⟩ = some (.int .u64 z.a) ∧ W.cell? ⟨b1, off1 + k * 4 + 1, none⟩ = some (.int .u64 z.b) ∧ W.cell? ⟨b1, off1 + k * 4 + 2, none⟩ = some (.int .u64 z.c) ∧ W.cell? ⟨b1, off1 + k * 4 + 3, none⟩ = some (.int .u64 z.d))) (by kernel_rfl) ?_ (fun hHeld => ?_)
          · exact MK.out _ (below_drew _)
          refine wpAnyH_take (i := 0) (v := (.slice (some ⟨b, off, none⟩) ids.length c)) rfl (by kernel_rfl) (by kernel_rfl) (by kernel_rfl) (fun _ _ _ h => h) (Or.inl ⟨by rfl, ?_⟩) hHeld ?_
          · intro w hSw; try dsimp only at hSw
            go_simp
          try simp only [Act.put, List.getElem_toArray, List.getElem_cons_zero, List.getElem_cons_succ, List.setIfInBounds_toArray, List.set_cons_zero, List.set_cons_succ]
          refine wpAnyH_take (i := 1) (v := (.int .i64 k)) rfl (by kernel_rfl) (by kernel_rfl) (by kernel_rfl) (fun _ _ _ h => h) (Or.inl ⟨by rfl, ?_⟩) hHeld ?_
          · intro w hSw; try dsimp only at hSw
            go_simp
          try simp only [Act.put, List.getElem_toArray, List.getElem_cons_zero, List.getElem_cons_succ, List.setIfInBounds_toArray, List.set_cons_zero, List.set_cons_succ]
          refine wpAnyH_take (i := 2) (v := (.pointer (some ⟨b, off + k * 4, none⟩))) rfl (by kernel_rfl) (by kernel_rfl) (by kernel_rfl) (fun _ _ _ h => h) (Or.inl ⟨by rfl, ?_⟩) hHeld ?_
          · intro w hSw; try dsimp only at hSw
            go_simp
          try simp only [Act.put, List.getElem_toArray, List.getElem_cons_zero, List.getElem_cons_succ, List.setIfInBounds_toArray, List.set_cons_zero, List.set_cons_succ]
          refine wpAnyH_take (i := 3) (v := (idV y)) rfl (by kernel_rfl) (by kernel_rfl) (by kernel_rfl) (fun _ _ _ h => h) (Or.inl ⟨by rfl, ?_⟩) hHeld ?_
          · intro w hSw; try dsimp only at hSw
            go_simp
          try simp only [Act.put, List.getElem_toArray, List.getElem_cons_zero, List.getElem_cons_succ, List.setIfInBounds_toArray, List.set_cons_zero, List.set_cons_succ]
          refine wpAnyH_take (i := 5) (v := (.slice (some ⟨b1, off1, none⟩) ids.length c')) rfl (by kernel_rfl) (by kernel_rfl) (by kernel_rfl) (fun _ _ _ h => h) (Or.inl ⟨by rfl, ?_⟩) hHeld ?_
          · intro w hSw; try dsimp only at hSw
            go_simp
          try simp only [Act.put, List.getElem_toArray, List.getElem_cons_zero, List.getElem_cons_succ, List.setIfInBounds_toArray, List.set_cons_zero, List.set_cons_succ]
          refine wpAnyH_take (i := 6) (v := (.int .i64 k)) rfl (by kernel_rfl) (by kernel_rfl) (by kernel_rfl) (fun _ _ _ h => h) (Or.inl ⟨by rfl, ?_⟩) hHeld ?_
          · intro w hSw; try dsimp only at hSw
            go_simp
          try simp only [Act.put, List.getElem_toArray, List.getElem_cons_zero, List.getElem_cons_succ, List.setIfInBounds_toArray, List.set_cons_zero, List.set_cons_succ]
          refine wpAnyH_take (i := 7) (v := (.pointer (some ⟨b1, off1 + k * 4, none⟩))) rfl (by kernel_rfl) (by kernel_rfl) (by kernel_rfl) (fun _ _ _ h => h) (Or.inl ⟨by rfl, ?_⟩) hHeld ?_
          · intro w hSw; try dsimp only at hSw
            go_simp
          try simp only [Act.put, List.getElem_toArray, List.getElem_cons_zero, List.getElem_cons_succ, List.setIfInBounds_toArray, List.set_cons_zero, List.set_cons_succ]
          refine wpAnyH_take (i := 8) (v := (idV z)) rfl (by kernel_rfl) (by kernel_rfl) (by kernel_rfl) (fun _ _ _ h => h) (Or.inl ⟨by rfl, ?_⟩) hHeld ?_
          · intro w hSw; try dsimp only at hSw
            go_simp
          try simp only [Act.put, List.getElem_toArray, List.getElem_cons_zero, List.getElem_cons_succ, List.setIfInBounds_toArray, List.set_cons_zero, List.set_cons_succ]
          refine wpAnyH_ready (rs := [4]) (by kernel_rfl) (by simp) ?_
          refine AllReadyH.cons rfl (fun K hK => ?_) AllReadyH.nil
          go_simp
          refine (words_any y _).mono ?_
          rintro e w7 ⟨rfl, hb7⟩
          refine hK.out _ _ ?_ (fun hHeld => ?_)
          · exact MK.out _ ((below_drew wr).trans hb7)
          clear hK K
          try simp only [Act.put, List.getElem_toArray, List.getElem_cons_zero, List.getElem_cons_succ, List.setIfInBounds_toArray, List.set_cons_zero, List.set_cons_succ]
          refine wpAnyH_take (i := 9) (v := (.bool false)) rfl (by kernel_rfl) (by kernel_rfl) (by kernel_rfl) (fun _ _ _ h => h) (Or.inl ⟨by rfl, ?_⟩) hHeld ?_
          · intro w hSw; try dsimp only at hSw
            go_simp
          try simp only [Act.put, List.getElem_toArray, List.getElem_cons_zero, List.getElem_cons_succ, List.setIfInBounds_toArray, List.set_cons_zero, List.set_cons_succ]
          refine wpAnyH_done (by kernel_rfl) ?_ _
          have hb8 := hide (hbr.out.trans (((below_drew wr).trans hb7).mono hbr.out.size))
          clear hHeld MK hb7
          go_wp2
          go_roundw
          case rel =>
            refine ⟨k + 1, by omega, by go_num, hide (fun j hj => ?_), hb8⟩
            by_cases e : j = k
            · subst e
              rw [HY2.out, HZ2.out, HH.out]
            · exact hno.out j (by omega)
          case measure => simp [intOf]; omega
        · have t : same4 y.a y.b y.c y.d z.a z.b z.c z.d = false := by rw [same4_ids]; simpa using hyz
          have HH := hide hyz
          clear hyz
          go_upto_region 6 with fail
          have MK := hide (show ∀ W, Below wr.heap.size wr W → (Below wr.heap.size wr W ∧ (W.cell? ⟨b, off + k * 4, none⟩ = some (.int .u64 y.a) ∧ W.cell? ⟨b, off + k * 4 + 1, none⟩ = some (.int .u64 y.b) ∧ W.cell? ⟨b, off + k * 4 + 2, none⟩ = some (.int .u64 y.c) ∧ W.cell? ⟨b, off + k * 4 + 3, none⟩ = some (.int .u64 y.d)) ∧ (W.cell? ⟨b1, off1 + k * 4, none⟩ = some (.int .u64 z.a) ∧ W.cell? ⟨b1, off1 + k * 4 + 1, none⟩ = some (.int .u64 z.b) ∧ W.cell? ⟨b1, off1 + k * 4 + 2, none⟩ = some (.int .u64 z.c) ∧ W.cell? ⟨b1, off1 + k * 4 + 3, none⟩ = some (.int .u64 z.d))) from fun W hW => ⟨hW, (HY.out.later hW hb).cellsAt, (HZ.out.later hW hb1).cellsAt⟩)
          refine wp_region_held_drew (S := fun W => Below wr.heap.size wr W ∧ (W.cell? ⟨b, off + k * 4, none⟩ = some (.int .u64 y.a) ∧ W.cell? ⟨b, off + k * 4 + 1, none⟩ = some (.int .u64 y.b) ∧ W.cell? ⟨b, off + k * 4 + 2, none⟩ = some (.int .u64 y.c) ∧ W.cell? ⟨b, off + k * 4 + 3, none⟩ = some (.int .u64 y.d)) ∧ (W.cell? ⟨b1, off1 + k * 4, none⟩ = some (.int .u64 z.a) ∧ W.cell? ⟨b1, off1 + k * 4 + 1, none⟩ = some (.int .u64 z.b) ∧ W.cell? ⟨b1, off1 + k * 4 + 2, none⟩ = some (.int .u64 z.c) ∧ W.cell? ⟨b1, off1 + k * 4 + 3, none⟩ = some (.int .u64 z.d))) (by kernel_rfl) ?_ (fun hHeld => ?_)
          · exact MK.out _ (below_drew _)
          refine wpAnyH_take (i := 0) (v := (.slice (some ⟨b, off, none⟩) ids.length c)) rfl (by kernel_rfl) (by kernel_rfl) (by kernel_rfl) (fun _ _ _ h => h) (Or.inl ⟨by rfl, ?_⟩) hHeld ?_
          · intro w hSw; try dsimp only at hSw
            go_simp
          try simp only [Act.put, List.getElem_toArray, List.getElem_cons_zero, List.getElem_cons_succ, List.setIfInBounds_toArray, List.set_cons_zero, List.set_cons_succ]
          refine wpAnyH_take (i := 1) (v := (.int .i64 k)) rfl (by kernel_rfl) (by kernel_rfl) (by kernel_rfl) (fun _ _ _ h => h) (Or.inl ⟨by rfl, ?_⟩) hHeld ?_
          · intro w hSw; try dsimp only at hSw
            go_simp
          try simp only [Act.put, List.getElem_toArray, List.getElem_cons_zero, List.getElem_cons_succ, List.setIfInBounds_toArray, List.set_cons_zero, List.set_cons_succ]
          refine wpAnyH_take (i := 2) (v := (.pointer (some ⟨b, off + k * 4, none⟩))) rfl (by kernel_rfl) (by kernel_rfl) (by kernel_rfl) (fun _ _ _ h => h) (Or.inl ⟨by rfl, ?_⟩) hHeld ?_
          · intro w hSw; try dsimp only at hSw
            go_simp
          try simp only [Act.put, List.getElem_toArray, List.getElem_cons_zero, List.getElem_cons_succ, List.setIfInBounds_toArray, List.set_cons_zero, List.set_cons_succ]
          refine wpAnyH_take (i := 3) (v := (idV y)) rfl (by kernel_rfl) (by kernel_rfl) (by kernel_rfl) (fun _ _ _ h => h) (Or.inl ⟨by rfl, ?_⟩) hHeld ?_
          · intro w hSw; try dsimp only at hSw
            go_simp
          try simp only [Act.put, List.getElem_toArray, List.getElem_cons_zero, List.getElem_cons_succ, List.setIfInBounds_toArray, List.set_cons_zero, List.set_cons_succ]
          refine wpAnyH_take (i := 5) (v := (.slice (some ⟨b1, off1, none⟩) ids.length c')) rfl (by kernel_rfl) (by kernel_rfl) (by kernel_rfl) (fun _ _ _ h => h) (Or.inl ⟨by rfl, ?_⟩) hHeld ?_
          · intro w hSw; try dsimp only at hSw
            go_simp
          try simp only [Act.put, List.getElem_toArray, List.getElem_cons_zero, List.getElem_cons_succ, List.setIfInBounds_toArray, List.set_cons_zero, List.set_cons_succ]
          refine wpAnyH_take (i := 6) (v := (.int .i64 k)) rfl (by kernel_rfl) (by kernel_rfl) (by kernel_rfl) (fun _ _ _ h => h) (Or.inl ⟨by rfl, ?_⟩) hHeld ?_
          · intro w hSw; try dsimp only at hSw
            go_simp
          try simp only [Act.put, List.getElem_toArray, List.getElem_cons_zero, List.getElem_cons_succ, List.setIfInBounds_toArray, List.set_cons_zero, List.set_cons_succ]
          refine wpAnyH_take (i := 7) (v := (.pointer (some ⟨b1, off1 + k * 4, none⟩))) rfl (by kernel_rfl) (by kernel_rfl) (by kernel_rfl) (fun _ _ _ h => h) (Or.inl ⟨by rfl, ?_⟩) hHeld ?_
          · intro w hSw; try dsimp only at hSw
            go_simp
          try simp only [Act.put, List.getElem_toArray, List.getElem_cons_zero, List.getElem_cons_succ, List.setIfInBounds_toArray, List.set_cons_zero, List.set_cons_succ]
          refine wpAnyH_take (i := 8) (v := (idV z)) rfl (by kernel_rfl) (by kernel_rfl) (by kernel_rfl) (fun _ _ _ h => h) (Or.inl ⟨by rfl, ?_⟩) hHeld ?_
          · intro w hSw; try dsimp only at hSw
            go_simp
          try simp only [Act.put, List.getElem_toArray, List.getElem_cons_zero, List.getElem_cons_succ, List.setIfInBounds_toArray, List.set_cons_zero, List.set_cons_succ]
          refine wpAnyH_ready (rs := [4]) (by kernel_rfl) (by simp) ?_
          refine AllReadyH.cons rfl (fun K hK => ?_) AllReadyH.nil
          go_simp
          refine (words_any y _).mono ?_
          rintro e w7 ⟨rfl, hb7⟩
          refine hK.out _ _ ?_ (fun hHeld => ?_)
          · exact MK.out _ ((below_drew wr).trans hb7)
          clear hK K
          try simp only [Act.put, List.getElem_toArray, List.getElem_cons_zero, List.getElem_cons_succ, List.setIfInBounds_toArray, List.set_cons_zero, List.set_cons_succ]
          refine wpAnyH_take (i := 9) (v := (.bool true)) rfl (by kernel_rfl) (by kernel_rfl) (by kernel_rfl) (fun _ _ _ h => h) (Or.inl ⟨by rfl, ?_⟩) hHeld ?_
          · intro w hSw; try dsimp only at hSw
            go_simp
          try simp only [Act.put, List.getElem_toArray, List.getElem_cons_zero, List.getElem_cons_succ, List.setIfInBounds_toArray, List.set_cons_zero, List.set_cons_succ]
          refine wpAnyH_done (by kernel_rfl) ?_ _
          have hb8 := hide (hbr.out.trans (((below_drew wr).trans hb7).mono hbr.out.size))
          clear hHeld MK hb7
          go_wp2
          go_ret
          refine ⟨?_, hb8.out⟩
          have : ids ≠ ws := fun e => HH.out (by
            have h1 := HY2.out
            rw [e, HZ2.out] at h1
            exact (Option.some.inj h1).symm)
          simp [this]
      · go_wp2
        go_ret
        refine ⟨?_, hbr.out⟩
        have : ids = ws := List.ext_getElem? (fun j => by
          by_cases hj : j < k
          · exact hno.out j hj
          · rw [List.getElem?_eq_none (by omega), List.getElem?_eq_none (by have := HL.out; omega)])
        simp [this]
  · go_enter Tryd.func16, Tryd.ntmps16
    go_wp2
    go_ret
    refine ⟨?_, Below.refl _ _⟩
    have : ids ≠ ws := fun e => hl (by rw [e])
    simp [this]
end Go.Proofs.Qxb6609340aDoor
