import Derived.Test.Qxb6612563aWalkD
namespace Go.Proofs.Qxb6612563a
open Go.ChangeShapes Go.WideShapes Go.ChangeAt Go.RowKit
set_option linter.unusedVariables false

set_option maxHeartbeats 800000 in
theorem bytes_any (x y : Int) (a1 a2 a3 a4 : Option Addr) (n1 n2 n3 n4 c1 c2 c3 c4 : Nat) (w : World) (h1 : n1 ≤ maxLen) (h2 : n2 ≤ maxLen) (h3 : n3 ≤ maxLen) (h4 : n4 ≤ maxLen) :
    Calls Try.prog 5 #[.int .i64 x, .slice a1 n1 c1, .slice a2 n2 c2, .slice a3 n3 c3, .slice a4 n4 c4, .int .i64 y] w fun e w' => ∃ r, e = .returned (.bool r) ∧ w' = w := by
  unfold maxLen at h1 h2 h3 h4
  go_enter Try.func5, Try.ntmps5
  go_wp2
  all_goals (go_ret; exact ⟨_, rfl, rfl⟩)

set_option maxHeartbeats 1600000 in
theorem model_any (last : Int) (a1 a2 a3 a4 : Option Addr) (c1 c2 c3 c4 : Nat) (ps os ids feds : List Int) (w : World) (hn : ps.length ≤ 1024) (hn2 : ids.length ≤ 1024) (ho : os.length = ps.length) (hf : feds.length = ids.length)
    (h1 : Ints w w.heap.size a1 ps) (h2 : Ints w w.heap.size a2 os) (h3 : Ints w w.heap.size a3 ids) (h4 : Ints w w.heap.size a4 feds) :
    Calls Try.prog 8 #[.int .i64 last, .slice a1 ps.length c1, .slice a2 ps.length c2, .slice a3 ids.length c3, .slice a4 ids.length c4] w fun e w' => ∃ r, e = .returned (.bool r) ∧ (r = true ↔ ∃ k : Nat, k < ps.length ∧ Plain.ModelP last ps os ids feds k) ∧ Below w.heap.size w w' := by
  have HO : Hid (os.length = ps.length) := ho
  have HF : Hid (feds.length = ids.length) := hf
  clear ho hf
  go_enter Try.func8, Try.ntmps8
  go_wp2
  go_loopw [11, 12] (fun i _ wr => ∃ k : Nat, k ≤ ps.length ∧ i = .int .i64 k ∧ (∀ k', k' < k → ¬ Plain.ModelP last ps os ids feds k') ∧ Below w.heap.size w wr) (fun i _ _ => ps.length - (intOf i).toNat)
  case atStart => exact ⟨0, Nat.zero_le _, rfl, fun j hj => absurd hj (Nat.not_lt_zero _), Below.refl _ _⟩
  case round =>
    obtain ⟨k, hk, rfl, hno, hbel⟩ := hrel
    by_cases hlt : k < ps.length
    · rename World => wv
      have hlo : k < os.length := by rw [HO.out]; exact hlt
      have hi1 := h1.later hbel hbel.size
      obtain ⟨b1, off1, rfl, hb1, hc1⟩ := h1 (by omega)
      obtain ⟨b2, off2, rfl, hb2, hc2⟩ := h2 (by omega)
      obtain ⟨p, hp⟩ : ∃ p, p = ps.getD k 0 := ⟨_, rfl⟩
      obtain ⟨o, hov⟩ : ∃ o, o = os.getD k 0 := ⟨_, rfl⟩
      have d1 : wv.cell? ⟨b1, off1 + k, none⟩ = some (.int .i64 p) := by rw [hp]; exact (hbel.cell (p := ⟨b1, off1 + k, none⟩) hb1).trans (hc1 k hlt)
      have d2 : wv.cell? ⟨b2, off2 + k, none⟩ = some (.int .i64 o) := by rw [hov]; exact (hbel.cell (p := ⟨b2, off2 + k, none⟩) hb2).trans (hc2 k hlo)
      have HP : Hid (p = ps.getD k 0) := hp
      have HV : Hid (o = os.getD k 0) := hov
      clear hp hov h1 h2 hc1 hc2
      go_wp2_with fail
      refine (first_any _ _ ps p _ _ hn hi1).mono ?_
      rintro e w' ⟨r, rfl, hr, rfl⟩
      by_cases hrk : r = k
      · subst hrk
        have HFI : Hid (Plain.IsFirst ps p k) := hr
        clear hr hi1
        go_wp2
        go_loopw [12] (fun j wr => ∃ m : Nat, m ≤ ids.length ∧ j = .int .i64 m ∧ (∀ m', m' < m → ¬ (ids.getD m' 0 = p ∧ (last = ids.getD m' 0 ∨ feds.getD m' 0 ≤ o))) ∧ Below w.heap.size w wr ∧ Below w'.heap.size w' wr) (fun j _ => ids.length - (intOf j).toNat)
        case atStart => exact ⟨0, Nat.zero_le _, rfl, fun j hj => absurd hj (Nat.not_lt_zero _), hbel, Below.refl _ _⟩
        case round =>
          obtain ⟨m, hm, rfl, hnm, hbm, hbm'⟩ := hrel
          by_cases hml : m < ids.length
          · have hmf : m < feds.length := by rw [HF.out]; exact hml
            have hsz := hbel.size
            have e1 := (hbm'.cell (p := ⟨b1, off1 + k, none⟩) (Nat.lt_of_lt_of_le hb1 hsz)).trans d1
            have e2 := (hbm'.cell (p := ⟨b2, off2 + k, none⟩) (Nat.lt_of_lt_of_le hb2 hsz)).trans d2
            obtain ⟨b3, off3, rfl, hb3, hc3⟩ := h3 (by omega)
            obtain ⟨b4, off4, rfl, hb4, hc4⟩ := h4 (by omega)
            obtain ⟨x, hx⟩ : ∃ x, x = ids.getD m 0 := ⟨_, rfl⟩
            obtain ⟨f, hf⟩ : ∃ f, f = feds.getD m 0 := ⟨_, rfl⟩
            have e3 : wr.cell? ⟨b3, off3 + m, none⟩ = some (.int .i64 x) := by rw [hx]; exact (hbm.cell (p := ⟨b3, off3 + m, none⟩) hb3).trans (hc3 m hml)
            have e4 : wr.cell? ⟨b4, off4 + m, none⟩ = some (.int .i64 f) := by rw [hf]; exact (hbm.cell (p := ⟨b4, off4 + m, none⟩) hb4).trans (hc4 m hmf)
            have HX : Hid (x = ids.getD m 0) := hx
            have HFF : Hid (f = feds.getD m 0) := hf
            have hdk : (k : Int) < (ps.length : Int) := by omega
            have hdm : (m : Int) < (ids.length : Int) := by omega
            clear hx hf h3 h4 hc3 hc4 d1 d2
            by_cases t1 : x = p
            · have T1 : (x == p) = true := by simpa using t1
              have H1 : Hid (x = p) := t1
              clear t1
              by_cases t2 : last = x
              · have T2 : (last == x) = true := by simpa using t2
                have H2 : Hid (last = x) := t2
                clear t2
                go_wp2
                go_quiet (fail)
                go_wp2
                go_ret
                exact ⟨true, rfl, ⟨fun _ => ⟨k, hlt, by rw [← HP.out]; exact HFI.out, m, hml, by rw [← HX.out, ← HP.out]; exact H1.out, .inl (by rw [← HX.out]; exact H2.out)⟩, fun _ => rfl⟩, below_drewN hbm _⟩
              · have T2 : (last == x) = false := by simpa using t2
                have H2 : Hid (¬ last = x) := t2
                clear t2
                by_cases t3 : f ≤ o
                · go_wp2
                  go_quiet (fail)
                  go_wp2
                  go_ret
                  exact ⟨true, rfl, ⟨fun _ => ⟨k, hlt, by rw [← HP.out]; exact HFI.out, m, hml, by rw [← HX.out, ← HP.out]; exact H1.out, .inr (by rw [← HFF.out, ← HV.out]; exact t3)⟩, fun _ => rfl⟩, below_drewN hbm _⟩
                · go_wp2
                  go_quiet (fail)
                  go_wp2
                  go_roundw
                  case rel =>
                    refine ⟨m + 1, by omega, by go_num, fun m' hm' => ?_, below_drewN hbm _, below_drewN hbm' _⟩
                    by_cases e : m' = m
                    · subst e
                      rw [← HX.out, ← HFF.out]
                      exact fun hh => hh.2.elim H2.out (fun h3 => by omega)
                    · exact hnm m' (by omega)
                  case measure => simp [intOf]; omega
            · have T1 : (x == p) = false := by simpa using t1
              have H1 : Hid (¬ x = p) := t1
              clear t1
              go_wp2
              go_quiet (fail)
              go_wp2
              go_roundw
              case rel =>
                refine ⟨m + 1, by omega, by go_num, fun m' hm' => ?_, below_drewN hbm _, below_drewN hbm' _⟩
                by_cases e : m' = m
                · subst e
                  rw [← HX.out]
                  exact fun hh => H1.out hh.1
                · exact hnm m' (by omega)
              case measure => simp [intOf]; omega
          · have HNM : Hid (¬ Plain.ModelP last ps os ids feds k) := fun hm => by
              obtain ⟨_, j, hj, hh1, hh2⟩ := hm
              exact hnm j (by omega) ⟨by rw [HP.out]; exact hh1, by rw [HV.out]; exact hh2⟩
            clear hnm h3 h4 d1 d2
            go_wp2
            go_roundw
            case rel =>
              refine ⟨k + 1, by omega, by go_num, fun k' hk' => ?_, hbm⟩
              by_cases e : k' = k
              · subst e
                exact HNM.out
              · exact hno k' (by omega)
            case measure => simp [intOf]; omega
      · have hrB : (r != (k : Int)) = true := by simpa using hrk
        have HNM : Hid (¬ Plain.ModelP last ps os ids feds k) := fun hm => by
          obtain ⟨hm, _⟩ := hm
          rw [← HP.out] at hm
          exact hrk (Plain.first_one hr hm)
        clear hrk hr hi1
        go_wp2
        go_roundw
        case rel =>
          refine ⟨k + 1, by omega, by go_num, fun k' hk' => ?_, hbel⟩
          by_cases e : k' = k
          · subst e
            exact HNM.out
          · exact hno k' (by omega)
        case measure => simp [intOf]; omega
    · go_wp2
      go_ret
      exact ⟨false, rfl, ⟨fun hh => by simp at hh, fun ⟨j, hj, hh⟩ => absurd hh (hno j (by omega))⟩, hbel⟩
end Go.Proofs.Qxb6612563a
