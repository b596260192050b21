import Derived.Test.Qxb6609279aFill
import Derived.Test.Qxb6609279aPlain
namespace Go.Proofs.Qxb6609279a
open Go.ChangeShapes Go.WideShapes Go.ChangeAt Go.RowKit Go.Maps
set_option linter.unusedVariables false

theorem kind_any (k : Nat) (w : World) (hk : k < 3) : Calls Try.prog 16 #[.int .i64 k] w fun e w' => e = .returned (.string (kindOf k)) ∧ w' = w := by
  match k, hk with
  | 0, _ =>
    go_enter Try.func16, Try.ntmps16
    go_wp2
    go_ret
    exact ⟨rfl, rfl⟩
  | 1, _ =>
    go_enter Try.func16, Try.ntmps16
    go_wp2
    go_ret
    exact ⟨rfl, rfl⟩
  | 2, _ =>
    go_enter Try.func16, Try.ntmps16
    go_wp2
    go_ret
    exact ⟨rfl, rfl⟩

theorem known_any (s : ByteArray) (w : World) : Calls Try.prog 6 #[.string s] w fun e w' => ∃ r, e = .returned (.bool r) ∧ w' = w := by
  go_enter Try.func6, Try.ntmps6
  go_wp2
  all_goals
    go_ret
    exact ⟨_, rfl, rfl⟩

/-- zzSame: of the answer as it stands. -/
theorem same_any (v : Value) (ok : Bool) (r : Option ByteArray) (w : World)
    (h : match r with | none => v = .slice none 0 0 ∧ ok = false | some us => ok = true ∧ ∃ b c, v = .slice (some ⟨b, 0, none⟩) 1 c ∧ w.cell? ⟨b, 0, none⟩ = some (.string us)) :
    Calls Try.prog 11 #[v, .bool ok, .string (r.getD NIL), .bool r.isSome] w fun e w' => e = .returned (.bool true) ∧ w' = w := by
  cases r with
  | none =>
    obtain ⟨rfl, rfl⟩ := h
    go_enter Try.func11, Try.ntmps11
    go_wp2
    go_ret
    exact ⟨rfl, rfl⟩
  | some us =>
    obtain ⟨rfl, b, c, rfl, hc⟩ := h
    have hus : (us.toList == us.toList) = true := by simp
    show Calls Try.prog 11 #[_, .bool true, .string us, .bool true] w _
    go_enter Try.func11, Try.ntmps11
    go_wp2
    go_ret
    exact ⟨rfl, rfl⟩

theorem kind_tests (k : Nat) (hk : k < 3) : ∃ bI bG : Bool, ((kindOf k).toList == [73, 109, 97, 103, 101]) = bI ∧ ((kindOf k).toList == [71, 108, 111, 98, 97, 108]) = bG ∧ (∀ x, hOf (kindOf k) x = if bG then NIL else x) ∧ (∀ x, pOf (kindOf k) x = if bI then x else NIL) := by
  rw [← IMG_list, ← GLB_list, beq_bytes, beq_bytes]
  have nGI : GLB ≠ IMG := fun h => absurd (congrArg ByteArray.size h) (by decide)
  have nRI : REG ≠ IMG := fun h => absurd (congrArg ByteArray.size h) (by decide)
  have nRG : REG ≠ GLB := fun h => absurd (congrArg ByteArray.size h) (by decide)
  match k, hk with
  | 0, _ => exact ⟨true, false, by simp [kindOf], by simp [kindOf, nGI.symm], by simp [kindOf, hOf], by simp [kindOf, pOf]⟩
  | 1, _ => exact ⟨false, false, by simp [kindOf, nRI], by simp [kindOf, nRG], by simp [kindOf, hOf], by simp [kindOf, pOf, nRI]⟩
  | 2, _ => exact ⟨false, true, by simp [kindOf, nGI], by simp [kindOf], by simp [kindOf, hOf, nGI, nRG.symm], by simp [kindOf, pOf, nGI]⟩

def KeptPost (w : World) (now : Int) (ents : List Ent) (host path account : ByteArray) (e : Ending) (w' : World) : Prop :=
  ∃ r : Option ByteArray, e = .returned (.tuple #[.string (r.getD NIL), .bool r.isSome]) ∧ Ans now ents host path account r ∧ Below w.heap.size w w'

set_option maxHeartbeats 3200000 in
theorem kept_any (now : Int) (a : Option Addr) (c : Nat) (ents : List Ent) (host path account : ByteArray) (w : World) (hn : ents.length ≤ 9223372036854775807) (h : Ents w w.heap.size a ents) :
    Calls Try.prog 10 #[.int .i64 now, .slice a ents.length c, .string host, .string path, .string account] w fun e w' => KeptPost w now ents host path account e w' := by
  have HE := hide h
  clear h
  go_enter Try.func10, Try.ntmps10
  go_wp2_with fail
  go_loopw [12, 13, 14, 15, 16, 17, 18, 19] (fun i _ _ _ _ _ _ _ wr => ∃ k : Nat, k ≤ 3 ∧ i = .int .i64 k ∧ Hid (Below w.heap.size w wr) ∧ Hid (∀ j, j < k → Pick now ents (keyV (kindOf j) host path account) none)) (fun i _ _ _ _ _ _ _ _ => 3 - (intOf i).toNat)
  case atStart => exact ⟨0, by omega, rfl, hide (Below.refl _ _), hide (fun j hj => by omega)⟩
  case round =>
    obtain ⟨k, hk, rfl, hbr, hno⟩ := hrel
    by_cases hlt : k < 3
    · obtain ⟨bI, bG, tI, tG, hH, hP⟩ := kind_tests k hlt
      have HKey := hide (fun e => ekey_iff e k host path account)
      simp only [hH, hP] at HKey
      clear hH hP
      cases bI <;> cases bG
      all_goals
        go_wp2_with (go_at_call 16; refine (kind_any k _ hlt).mono ?_; rintro r w1 ⟨rfl, rfl⟩)
        go_loopw [16, 17, 18, 19] (fun i _ _ _ wr => ∃ j : Nat, j ≤ ents.length ∧ i = .int .i64 ((j : Int) - 1) ∧ Hid (Below w.heap.size w wr) ∧ Hid (∀ m e, j ≤ m → ents[m]? = some e → ekey e ≠ keyV (kindOf k) host path account)) (fun i _ _ _ _ => (intOf i + 1).toNat)
        case atStart => exact ⟨ents.length, Nat.le_refl _, rfl, hbr, hide (fun m e hm he => by rw [List.getElem?_eq_none hm] at he; simp at he)⟩
        case round =>
          clear hbr
          obtain ⟨j, hj, rfl, hbr, hmiss⟩ := hrel
          cases j with
          | zero =>
            go_wp2
            refine ⟨⟨k + 1, by omega, by go_num, hbr, hide (fun j hj => ?_)⟩, by simp [intOf]; omega⟩
            by_cases hjk : j = k
            · subst hjk
              exact .inl ⟨fun m e _ he => hmiss.out m e (Nat.zero_le _) he, rfl⟩
            · exact hno.out j (by omega)
          | succ m =>
            rw [show ((m + 1 : Nat) : Int) - 1 = (m : Int) from by omega]
            obtain ⟨e, he⟩ : ∃ e, ents[m]? = some e := ⟨_, List.getElem?_eq_getElem (by omega)⟩
            obtain ⟨b, off, rfl, hb, c0, c1, c2, c3, c4, c5⟩ := (HE.out.later hbr.out (Nat.le_refl _)) m e he
            have he' := hide he
            have HB := hide (hbr.out.alloc hbr.out.size (.cells #[.string e.kt, .string e.h, .string e.p, .string e.ac, .int .i64 e.ex, .string e.us] 27))
            clear he
            have KE := hide (HKey.out e)
            by_cases hM : ekey e = keyV (kindOf k) host path account
            · obtain ⟨h1, h2, h3, h4⟩ := KE.out.1 hM
              have t1 : (e.kt.toList == (kindOf k).toList) = true := by rw [beq_bytes]; simpa using h1
              have t2 : (e.ac.toList == account.toList) = true := by rw [beq_bytes]; simpa using h2
              have t3 : (e.h.toList == host.toList) = decide (e.h = host) := beq_bytes _ _
              have t4 : (e.p.toList == path.toList) = decide (e.p = path) := beq_bytes _ _
              try rw [decide_eq_true (show e.h = host from by simpa using h3)] at t3
              try rw [decide_eq_true (show e.p = path from by simpa using h4)] at t4
              have HM := hide hM
              clear h1 h2 h3 h4 hM KE
              by_cases hnow : now < e.ex
              · have HT := hide hnow
                go_wp2
                go_ret2
                exact ⟨some e.us, rfl, .inl ⟨k, hlt, hno.out, .inr ⟨m, e, ⟨by omega, ⟨e, he'.out, HM.out⟩, fun j' e' h1 h2 h3 => hmiss.out j' e' h1 h3⟩, he'.out, (if_pos hnow).symm⟩, by simp⟩, HB.out⟩
              · go_wp2
                refine ⟨⟨k + 1, by omega, by go_num, HB, hide (fun j hj => ?_)⟩, by simp [intOf]; omega⟩
                by_cases hjk : j = k
                · subst hjk
                  exact .inr ⟨m, e, ⟨by omega, ⟨e, he'.out, HM.out⟩, fun j' e' h1 h2 h3 => hmiss.out j' e' h1 h3⟩, he'.out, (if_neg (by omega)).symm⟩
                · exact hno.out j (by omega)
            · have goon : (∃ j : Nat, j ≤ ents.length ∧ Value.int .i64 ((m : Int) - 1) = .int .i64 ((j : Int) - 1) ∧ Hid (Below w.heap.size w (wr.alloc (.cells #[.string e.kt, .string e.h, .string e.p, .string e.ac, .int .i64 e.ex, .string e.us] 27))) ∧ Hid (∀ m e, j ≤ m → ents[m]? = some e → ekey e ≠ keyV (kindOf k) host path account)) ∧ (intOf (.int .i64 ((m : Int) - 1)) + 1).toNat < (intOf (.int .i64 (m : Int)) + 1).toNat := by
                refine ⟨⟨m, by omega, rfl, HB, hide (fun m' e' hm' he2 => ?_)⟩, by simp [intOf]⟩
                by_cases hmm : m' = m
                · subst hmm
                  have := he'.out
                  rw [he2] at this
                  cases this
                  exact hM
                · exact hmiss.out m' e' (by omega) he2
              have GO := hide goon
              have HM := hide hM
              clear goon hM HB hmiss
              by_cases h1 : e.kt = kindOf k
              · have t1 : (e.kt.toList == (kindOf k).toList) = true := by rw [beq_bytes]; simpa using h1
                by_cases h2 : e.ac = account
                · have t2 : (e.ac.toList == account.toList) = true := by rw [beq_bytes]; simpa using h2
                  by_cases h3 : e.h = host
                  · by_cases h4 : e.p = path
                    · exact absurd (KE.out.2 ⟨h1, h2, by simp [h3], by simp [h4]⟩) HM.out
                    · first
                        | (refine absurd (KE.out.2 ⟨h1, h2, ?_, ?_⟩) HM.out <;> (simp [h3]; done))
                        | (have t3 : (e.h.toList == host.toList) = true := by rw [beq_bytes]; simpa using h3
                           have t4 : (e.p.toList == path.toList) = false := by rw [beq_bytes]; simpa using h4
                           clear h1 h2 h3 h4
                           go_wp2
                           exact GO.out)
                  · by_cases h4 : e.p = path
                    · first
                        | (refine absurd (KE.out.2 ⟨h1, h2, ?_, ?_⟩) HM.out <;> (simp [h4]; done))
                        | (have t3 : (e.h.toList == host.toList) = false := by rw [beq_bytes]; simpa using h3
                           have t4 : (e.p.toList == path.toList) = true := by rw [beq_bytes]; simpa using h4
                           clear h1 h2 h3 h4
                           go_wp2
                           exact GO.out)
                    · first
                        | (refine absurd (KE.out.2 ⟨h1, h2, ?_, ?_⟩) HM.out <;> (simp; done))
                        | (have t3 : (e.h.toList == host.toList) = false := by rw [beq_bytes]; simpa using h3
                           have t4 : (e.p.toList == path.toList) = false := by rw [beq_bytes]; simpa using h4
                           clear h1 h2 h3 h4
                           go_wp2
                           exact GO.out)
                · have t2 : (e.ac.toList == account.toList) = false := by rw [beq_bytes]; simpa using h2
                  clear h1 h2
                  go_wp2
                  exact GO.out
              · have t1 : (e.kt.toList == (kindOf k).toList) = false := by rw [beq_bytes]; simpa using h1
                clear h1
                go_wp2
                exact GO.out
    · go_wp2
      go_ret2
      exact ⟨none, rfl, .inr ⟨rfl, fun j hj => hno.out j (by omega)⟩, hbr.out⟩
end Go.Proofs.Qxb6609279a
