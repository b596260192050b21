import Derived.Test.Qxb6609340aDoorSub
import Derived.Test.Qxb6609340aDoorEq
namespace Go.Proofs.Qxb6609340aDoor
open Go.ChangeShapes Go.WideShapes Go.ChangeAt Go.RowKit
set_option linter.unusedVariables false

def bor (x y : Id) : Nat → Int
  | 0 => borrow x.a y.a (borrow x.b y.b (borrow x.c y.c (borrow x.d y.d 0)))
  | 1 => borrow x.b y.b (borrow x.c y.c (borrow x.d y.d 0))
  | 2 => borrow x.c y.c (borrow x.d y.d 0)
  | 3 => borrow x.d y.d 0
  | _ => 0
theorem bor_step (x y : Id) (n : Nat) (h : n < 4) : bor x y n = borrow (lim x n) (lim y n) (bor x y (n + 1)) := by
  match n, h with
  | 0, _ => rfl
  | 1, _ => rfl
  | 2, _ => rfl
  | 3, _ => rfl
theorem bor_bit (x y : Id) (n : Nat) : bor x y n = 0 ∨ bor x y n = 1 := by
  match n with
  | 0 => exact borrow_bit _ _ _
  | 1 => exact borrow_bit _ _ _
  | 2 => exact borrow_bit _ _ _
  | 3 => exact borrow_bit _ _ _
  | n + 4 => exact .inl rfl
theorem sub_lim (x y : Id) (n : Nat) (h : n < 4) : lim (subI x y) n = word (lim x n) (lim y n) (bor x y (n + 1)) := by
  match n, h with
  | 0, _ => rfl
  | 1, _ => rfl
  | 2, _ => rfl
  | 3, _ => rfl
theorem lim_wf {x : Id} (h : x.wf) (n : Nat) : U (lim x n) := by
  obtain ⟨h1, h2, h3, h4⟩ := h
  match n with
  | 0 => exact h1
  | 1 => exact h2
  | 2 => exact h3
  | n + 3 => exact h4

/-- Of the difference's four cells those from m on are laid. -/
def Laid (w : World) (g : Nat) (x y : Id) (m : Nat) : Prop :=
  ∀ k, k < 4 → w.cell? ⟨g, k, none⟩ = some (.int .u64 (if m ≤ k then lim (subI x y) k else 0)) ∧ w.frozen? ⟨g, k, none⟩ = false

theorem laid_step {w : World} {g : Nat} {x y : Id} {n : Nat} (h : Laid w g x y (n + 1)) (hn : n < 4) {v : Int} (hv : v = lim (subI x y) n) : Laid (w.setCell ⟨g, n, none⟩ (.int .u64 v)) g x y n := by
  intro k hk
  obtain ⟨h1, h2⟩ := h k hk
  rw [World.frozen?_setCell]
  refine ⟨?_, h2⟩
  by_cases e : k = n
  · subst e
    rw [World.cell?_setCell_same _ _ _ h1, if_pos (Nat.le_refl _), hv]
  · rw [World.cell?_setCell_other _ _ _ _ (fun h => e (by injection h with h1 h2; exact h2.symm)), h1]
    by_cases l : n ≤ k
    · rw [if_pos (by omega), if_pos l]
    · rw [if_neg (by omega), if_neg l]

set_option maxHeartbeats 800000 in
theorem sub_any (x y : Id) (w : World) (hx : x.wf) (hy : y.wf) : Calls Tryd.prog 21 #[idV x, idV y] w fun e w' => e = .returned (idV (subI x y)) ∧ Below w.heap.size w w' := by
  have HX := hide hx
  have HY := hide hy
  clear hx hy
  go_enter Tryd.func21, Tryd.ntmps21
  go_wp2_with fail
  obtain ⟨w2, hw2⟩ : ∃ z, z = (((w.alloc (box x 23)).alloc (box y 23)).alloc (.cells #[.int .u64 0, .int .u64 0, .int .u64 0, .int .u64 0] 23)).alloc (.cells #[.int .u64 0, .int .u64 0, .int .u64 0, .int .u64 0] 23) := ⟨_, rfl⟩
  rw [← hw2]
  obtain ⟨g, hg⟩ : ∃ g, g = w.heap.size + 1 + 1 + 1 := ⟨_, rfl⟩
  have hb2 := hide (show Below w.heap.size w w2 by rw [hw2]; exact ((((Below.refl _ _).alloc (Nat.le_refl _) _).alloc (by simp) _).alloc (by simp; omega) _).alloc (by simp; omega) _)
  have h1 := hide (show IdAt w2 w.heap.size 0 x by rw [hw2]; exact (((idAt_new w x 23).alloc (by simp) _).alloc (by simp; omega) _).alloc (by simp; omega) _)
  have h2 := hide (show IdAt w2 (w.heap.size + 1) 0 y by rw [hw2]; have := ((idAt_new (w.alloc (box x 23)) y 23).alloc (by simp) (.cells #[.int .u64 0, .int .u64 0, .int .u64 0, .int .u64 0] 23)).alloc (by simp) (.cells #[.int .u64 0, .int .u64 0, .int .u64 0, .int .u64 0] 23); simpa using this)
  have hs : g < w2.heap.size := by rw [hw2, hg]; simp
  have hl := hide (show Laid w2 g x y 4 by
    intro k hk
    rw [if_neg (by omega), hw2, hg]
    match k, hk with
    | 0, _ => exact ⟨by go_simp, by go_simp⟩
    | 1, _ => exact ⟨by go_simp, by go_simp⟩
    | 2, _ => exact ⟨by go_simp, by go_simp⟩
    | 3, _ => exact ⟨by go_simp, by go_simp⟩)
  have hr := hide (show ∀ k, k < 4 → w2.cell? ⟨w.heap.size + 1 + 1, k, none⟩ = some (.int .u64 0) ∧ w2.frozen? ⟨w.heap.size + 1 + 1, k, none⟩ = false by
    intro k hk
    rw [hw2]
    match k, hk with
    | 0, _ => exact ⟨by go_simp, by go_simp⟩
    | 1, _ => exact ⟨by go_simp, by go_simp⟩
    | 2, _ => exact ⟨by go_simp, by go_simp⟩
    | 3, _ => exact ⟨by go_simp, by go_simp⟩)
  rw [← hg]
  have hgt : w.heap.size + 1 + 1 < g := by omega
  clear hw2 hg
  go_loopw [6, 7, 8, 9] (fun bw i _ _ wr => ∃ m : Nat, m ≤ 4 ∧ i = .int .i64 ((m : Int) - 1) ∧ bw = .int .u64 (bor x y m) ∧ Hid (Laid wr g x y m) ∧ Hid (Below g w2 wr)) (fun _ i _ _ _ => (intOf i + 1).toNat)
  case atStart => exact ⟨4, by omega, rfl, rfl, hl, hide (Below.refl _ _)⟩
  case round =>
    obtain ⟨m, hm, rfl, rfl, hlr, hbr⟩ := hrel
    cases m with
    | zero =>
      obtain ⟨c0, f0⟩ := hlr.out 0 (by omega)
      obtain ⟨c1, f1⟩ := hlr.out 1 (by omega)
      obtain ⟨c2, f2⟩ := hlr.out 2 (by omega)
      obtain ⟨c3, f3⟩ := hlr.out 3 (by omega)
      rw [if_pos (by omega)] at c0 c1 c2 c3
      have hr' : ∀ k, k < 4 → wr.cell? ⟨w.heap.size + 1 + 1, k, none⟩ = some (.int .u64 0) ∧ wr.frozen? ⟨w.heap.size + 1 + 1, k, none⟩ = false := fun k hk => ⟨(hbr.out.cell (p := ⟨w.heap.size + 1 + 1, k, none⟩) (by simp; omega)).trans (hr.out k hk).1, (hbr.out.frozen (p := ⟨w.heap.size + 1 + 1, k, none⟩) (by simp; omega)).trans (hr.out k hk).2⟩
      obtain ⟨r0, q0⟩ := hr' 0 (by omega)
      obtain ⟨r1, q1⟩ := hr' 1 (by omega)
      obtain ⟨r2, q2⟩ := hr' 2 (by omega)
      obtain ⟨r3, q3⟩ := hr' 3 (by omega)
      clear hr' f0 f1 f2 f3
      go_wp2
      refine bodyPost_ret (v := idV (subI x y)) (by simp [results, Tryd.results21, go_sem, r0, r1, r2, r3]; exact ⟨rfl, rfl, rfl, rfl⟩) rfl ⟨rfl, ?_⟩
      have h1 : Below w.heap.size w wr := hb2.out.trans (hbr.out.mono (by omega))
      exact (((h1.setCell (p := ⟨w.heap.size + 1 + 1, 0, none⟩) (by simp; omega) _).setCell (p := ⟨w.heap.size + 1 + 1, 1, none⟩) (by simp; omega) _).setCell (p := ⟨w.heap.size + 1 + 1, 2, none⟩) (by simp; omega) _).setCell (p := ⟨w.heap.size + 1 + 1, 3, none⟩) (by simp; omega) _
    | succ n =>
      rw [show ((n + 1 : Nat) : Int) - 1 = (n : Int) from by omega]
      have c1 := (h1.out.later hbr.out (by omega)) n (by omega)
      have c2 := (h2.out.later hbr.out (by omega)) n (by omega)
      rw [Nat.zero_add] at c1 c2
      obtain ⟨d0, f0⟩ := hlr.out n (by omega)
      obtain ⟨u, hu⟩ : ∃ u, u = lim x n := ⟨_, rfl⟩
      obtain ⟨v, hv⟩ : ∃ v, v = lim y n := ⟨_, rfl⟩
      obtain ⟨b, hb⟩ : ∃ b, b = bor x y (n + 1) := ⟨_, rfl⟩
      rw [← hu] at c1
      rw [← hv] at c2
      rw [← hb]
      have ru := lim_wf HX.out n
      have rv := lim_wf HY.out n
      have rb := bor_bit x y (n + 1)
      rw [← hu] at ru
      rw [← hv] at rv
      rw [← hb] at rb
      obtain ⟨ru0, ru1⟩ := ru
      obtain ⟨rv0, rv1⟩ := rv
      have HU := hide (And.intro hu (And.intro hv hb))
      clear hu hv hb
      have rb0 : 0 ≤ b := by omega
      have rb1 : b ≤ 1 := by omega
      clear rb
      have fin : ∀ E B : Int, E = word u v b → B = borrow u v b → (∃ m : Nat, m ≤ 4 ∧ Value.int .i64 ((n : Int) - 1) = .int .i64 ((m : Int) - 1) ∧ Value.int .u64 B = .int .u64 (bor x y m) ∧ Hid (Laid (wr.setCell ⟨g, n, none⟩ (.int .u64 E)) g x y m) ∧ Hid (Below g w2 (wr.setCell ⟨g, n, none⟩ (.int .u64 E)))) ∧ (intOf (.int .i64 ((n : Int) - 1)) + 1).toNat < (intOf (.int .i64 (n : Int)) + 1).toNat := by
        intro E B hE hB
        refine ⟨⟨n, by omega, rfl, ?_, hide (laid_step hlr.out (by omega) ?_), hide (hbr.out.setCell (Nat.le_refl _) _)⟩, by simp [intOf]⟩
        · rw [bor_step x y n (by omega), ← HU.out.1, ← HU.out.2.1, ← HU.out.2.2, hB]
        · rw [sub_lim x y n (by omega), ← HU.out.1, ← HU.out.2.1, ← HU.out.2.2, hE]
      have FIN := hide fin
      clear fin
      by_cases hl : u < v
      · go_wp2
        exact FIN.out _ _ (by rw [IntKind.wrap_u64, IntKind.wrap_u64]; unfold word; rw [if_pos (by omega)]; omega) (by unfold borrow; rw [if_pos (by omega)])
      · by_cases he : u = v
        · have t : (u == v) = true := by simpa using he
          by_cases hb : b = 1
          · have t2 : (b == 1) = true := by simpa using hb
            go_wp2
            exact FIN.out _ _ (by simp only [IntKind.wrap_u64]; unfold word; rw [if_pos (by omega)]; omega) (by unfold borrow; rw [if_pos (by omega)])
          · have t2 : (b == 1) = false := by simpa using hb
            go_wp2
            exact FIN.out _ _ (by unfold word; rw [if_neg (by omega)] <;> omega) (by unfold borrow; rw [if_neg (by omega)])
        · have t : (u == v) = false := by simpa using he
          go_wp2
          exact FIN.out _ _ (by unfold word; rw [if_neg (by omega)] <;> omega) (by unfold borrow; rw [if_neg (by omega)])

set_option maxHeartbeats 800000 in
theorem zzInOpen_any (x a b : Id) (w : World) (hx : x.wf) (ha : a.wf) (hb : b.wf) : Calls Tryd.prog 12 #[idV x, idV a, idV b] w fun e w' => e = .returned (.bool (decide (InOpen x a b))) ∧ Below w.heap.size w w' := by
  have D := hide (inOpen_dist hx ha hb (subI_is hx ha) (subI_is hb ha))
  have S1 := hide (fun w => sub_any x a w hx ha)
  have S2 := hide (fun w => sub_any b a w hb ha)
  have L := hide (fun w => less_any (subI x a) (subI b a) w (subI_is hx ha).1 (subI_is hb ha).1)
  clear hx ha hb
  obtain ⟨dx, hdx⟩ : ∃ d, d = subI x a := ⟨_, rfl⟩
  obtain ⟨db, hdb⟩ : ∃ d, d = subI b a := ⟨_, rfl⟩
  rw [← hdx] at D S1 L
  rw [← hdb] at D S2 L
  clear hdx hdb
  go_enter Tryd.func12, Tryd.ntmps12
  go_wp2_with fail
  obtain ⟨w4, hw4⟩ : ∃ z, z = (((w.alloc (box x 23)).alloc (box a 23)).alloc (box b 23)).alloc (box zero 23) := ⟨_, rfl⟩
  have hw4' := hw4
  unfold zero at hw4'
  rw [← hw4']
  clear hw4'
  obtain ⟨b1, b2, b3, hs3, hb3⟩ := boxes3 w x a b 23
  obtain ⟨b1, b2, b3, b4, hs4, hb4⟩ : IdAt w4 w.heap.size 0 x ∧ IdAt w4 (w.heap.size + 1) 0 a ∧ IdAt w4 (w.heap.size + 1 + 1) 0 b ∧ IdAt w4 (w.heap.size + 1 + 1 + 1) 0 zero ∧ w4.heap.size = w.heap.size + 1 + 1 + 1 + 1 ∧ Below w.heap.size w w4 := by
    rw [hw4]
    refine ⟨b1.alloc (by omega) _, b2.alloc (by omega) _, b3.alloc (by omega) _, ?_, by simp, hb3.alloc hb3.size _⟩
    have := idAt_new (((w.alloc (box x 23)).alloc (box a 23)).alloc (box b 23)) zero 23
    rwa [hs3] at this
  have B1 := hide b1
  have B2 := hide b2
  have B3 := hide b3
  have B4 := hide b4
  have HB4 := hide hb4
  clear hw4 b1 b2 b3 b4 hb4 hb3 hs3
  refine (S1.out w4).mono ?_
  rintro e w5 ⟨rfl, hb5⟩
  have HB5 := hide (hb5.alloc hb5.size (box dx 23))
  have hs5 := hb5.size
  have X5 := hide (idAt_new w5 dx 23)
  obtain ⟨y0, y1, y2, y3⟩ := (B2.out.later hb5 (by omega)).cells0
  obtain ⟨z0, z1, z2, z3⟩ := (B3.out.later hb5 (by omega)).cells0
  have s5a : w.heap.size + 1 < w5.heap.size := by omega
  have s5b : w.heap.size + 1 + 1 < w5.heap.size := by omega
  clear b1 b2 b3
  go_wp2_with fail
  refine (S2.out _).mono ?_
  rintro e w6 ⟨rfl, hb6⟩
  have hb46 : Below w4.heap.size w4 w6 := HB5.out.trans (hb6.mono HB5.out.size)
  have HB6 := hide hb46
  obtain ⟨p0, p1, p2, p3⟩ := (X5.out.later hb6 (by simp)).cells0
  obtain ⟨q0, q1, q2, q3⟩ := (B4.out.later hb46 (by omega)).cells0
  have hs6 := hb6.size
  simp at hs6
  unfold zero at q0 q1 q2 q3
  have s6a : w5.heap.size < w6.heap.size := by omega
  have s6b : w.heap.size + 1 + 1 + 1 < w6.heap.size := by omega
  clear y0 y1 y2 y3 z0 z1 z2 z3 hb6 hb46 hb5
  by_cases h1 : dx = zero
  · have t1 : same4 dx.a dx.b dx.c dx.d 0 0 0 0 = true := by have := same4_ids dx zero; rw [decide_eq_true h1] at this; exact this
    have H1 := hide h1
    clear h1
    go_wp2
    go_ret
    refine ⟨?_, HB4.out.trans ((HB6.out.alloc HB6.out.size _).mono HB4.out.size)⟩
    have : ¬ InOpen x a b := by rw [D.out]; exact fun h => h.1 H1.out
    simp [this]
  · have t1 : same4 dx.a dx.b dx.c dx.d 0 0 0 0 = false := by have := same4_ids dx zero; rw [decide_eq_false h1] at this; exact this
    have H1 := hide (show dx ≠ zero from h1)
    clear h1
    by_cases h2 : db = zero
    · have t2 : same4 db.a db.b db.c db.d 0 0 0 0 = true := by have := same4_ids db zero; rw [decide_eq_true h2] at this; exact this
      have H2 := hide h2
      clear h2
      go_wp2
      go_ret
      refine ⟨?_, HB4.out.trans ((HB6.out.alloc HB6.out.size _).mono HB4.out.size)⟩
      have : InOpen x a b := by rw [D.out]; exact ⟨H1.out, .inl H2.out⟩
      simp [this]
    · have t2 : same4 db.a db.b db.c db.d 0 0 0 0 = false := by have := same4_ids db zero; rw [decide_eq_false h2] at this; exact this
      have H2 := hide (show db ≠ zero from h2)
      clear h2
      go_wp2_with fail
      refine (L.out _).mono ?_
      rintro e w7 ⟨rfl, hb7⟩
      have HB7 := hide ((HB6.out.alloc HB6.out.size _).trans (hb7.mono (HB6.out.alloc HB6.out.size _).size))
      clear p0 p1 p2 p3 q0 q1 q2 q3 hb7
      go_wp2
      go_ret
      refine ⟨?_, HB4.out.trans (HB7.out.mono HB4.out.size)⟩
      have : InOpen x a b ↔ dx.val < db.val := by rw [D.out]; exact ⟨fun h => h.2.resolve_left H2.out, fun h => ⟨H1.out, .inr h⟩⟩
      simp [this]
end Go.Proofs.Qxb6609340aDoor
