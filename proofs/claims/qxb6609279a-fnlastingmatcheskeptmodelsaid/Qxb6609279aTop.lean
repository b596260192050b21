import Derived.Test.Qxb6609279aKept
import Derived.Test.Qxb6609279aBytes
import Derived.Test.Qxb6609279aUsers
namespace Go.Proofs.Qxb6609279a
open Go.ChangeShapes Go.WideShapes Go.ChangeAt Go.RowKit Go.Maps
set_option linter.unusedVariables false

theorem GotU.later {w w' : World} {v : Value} {b : Bool} {r : Option ByteArray} (h : GotU w v b r) (hb : Below w.heap.size w w') : GotU w' v b r := by
  cases r with
  | none => exact h
  | some us =>
    obtain ⟨h1, g, c, h2, h3, h4⟩ := h
    exact ⟨h1, g, c, h2, Nat.lt_of_lt_of_le h3 hb.size, (hb.cell (p := ⟨g, 0, none⟩) h3).trans h4⟩

theorem same_got {w : World} {v : Value} {ok : Bool} {r : Option ByteArray} (h : GotU w v ok r) : Calls Try.prog 11 #[v, .bool ok, .string (r.getD NIL), .bool r.isSome] w fun e w' => e = .returned (.bool true) ∧ w' = w := by
  cases r with
  | none => exact same_any v ok none w h
  | some us =>
    obtain ⟨h1, g, c, h2, h3, h4⟩ := h
    exact same_any v ok (some us) w ⟨h1, g, c, h2, h4⟩

def TopPost (w : World) (e : Ending) (w' : World) : Prop := e = .returned (.bool true) ∧ Below w.heap.size w w'

set_option maxHeartbeats 3200000 in
set_option maxRecDepth 100000 in
theorem top_any (now : Int) (a : Option Addr) (c : Nat) (ents : List Ent) (host path account : ByteArray) (w : World) (hd0 : -9223372036854775808 ≤ now) (hd1 : now ≤ 9223372036854775807) (hn : ents.length ≤ 9223372036854775807) (h : Ents w w.heap.size a ents)
    (hwf : ∀ (i : Nat) e, ents[i]? = some e → EntWf e) (s1 : host.size ≤ 9223372036854775807) (s2 : path.size ≤ 9223372036854775807) (s3 : account.size ≤ 9223372036854775807) :
    Calls Try.prog 3 #[.int .i64 now, .slice a ents.length c, .string host, .string path, .string account] w fun e w' => TopPost w e w' := by
  have HE := hide h
  have HW := hide hwf
  clear h hwf
  go_enter Try.func3, Try.ntmps3
  go_wp2_with fail
  refine (bytes_any now a c ents host path account w hn HE.out HW.out s1 s2 s3).mono ?_
  rintro e w' ⟨r, rfl, rfl⟩
  cases r
  · go_wp2
    go_ret
    exact ⟨rfl, Below.refl _ _⟩
  by_cases hs : host.size ≤ 262144 ∧ path.size ≤ 262144 ∧ account.size ≤ 262144
  · obtain ⟨q1, q2, q3⟩ := hs
    go_wp2_with fail
    rename World => w0
    refine (size_any a c ents _ hn HE.out HW.out).mono ?_
    rintro e w1 ⟨z, rfl, hz0, hz1, hb1⟩
    have HB := hide hb1
    replace HE := hide (HE.out.later hb1 hb1.size)
    clear hb1
    by_cases hbig : z + host.size + path.size + account.size ≤ 1048576
    · go_wp2_with fail
      go_loop [11] (fun i => ∃ k : Nat, k ≤ ents.length ∧ i = .int .i64 k) (fun i => ents.length - (intOf i).toNat)
      case atStart => exact ⟨0, Nat.zero_le _, rfl⟩
      case round =>
        obtain ⟨k, hk, rfl⟩ := hrel
        by_cases hlt : k < ents.length
        · obtain ⟨e, he⟩ : ∃ e, ents[k]? = some e := ⟨_, List.getElem?_eq_getElem hlt⟩
          obtain ⟨b, off, rfl, hb, c0, _⟩ := HE.out k e he
          clear he
          go_wp2_with fail
          refine (known_any e.kt w1).mono ?_
          rintro r wk ⟨r, rfl, rfl⟩
          cases r
          · go_wp2
            go_ret
            exact ⟨rfl, HB.out⟩
          · go_wp2
            go_round
            case rel => exact ⟨k + 1, by omega, by go_num⟩
            case measure => simp [intOf]; omega
        · clear hk hbig
          have l1 : host.size ≤ maxLen := by unfold maxLen; omega
          have l2 : path.size ≤ maxLen := by unfold maxLen; omega
          have l3 : account.size ≤ maxLen := by unfold maxLen; omega
          go_wp2_with fail
          refine (newCache_any now ents w1).mono ?_
          rintro e w2 ⟨bc, bn, bm, rfl, hc2, hbm, hb2⟩
          have HC2 := hide hc2
          have HBw := HB
          have HB2 := hide hb2
          have hBw := hide hb2.size
          replace HE := hide (HE.out.later hb2 (Nat.le_refl _))
          clear hc2 hb2
          go_wp2_with fail
          refine (fill_any a c w1.heap.size bc bn bm now ents w2 hn HW.out hbm hBw.out HE.out HC2.out).mono ?_
          rintro e w3 ⟨rfl, hc3, hb3⟩
          have HC3 := hide hc3
          have h13 := hide (HB2.out.trans hb3)
          replace HE := hide (HE.out.later hb3 (Nat.le_refl _))
          clear hc3 hb3
          go_wp2_with fail
          refine (users_any bc bn bm now ents host path account w3 hd0 hd1 HW.out l1 l2 l3 HC3.out).mono ?_
          rintro e w4 ⟨v, b, r, rfl, ha, hgot, hb4⟩
          have HA := hide ha
          have HG := hide hgot
          have h14 := hide (h13.out.trans (hb4.mono h13.out.size))
          replace HE := hide (HE.out.later (hb4.mono h13.out.size) h14.out.size)
          clear ha hgot hb4
          go_wp2_with fail
          refine (kept_any now a c ents host path account w4 hn HE.out).mono ?_
          rintro e w5 ⟨r', rfl, ha', hb5⟩
          have : r' = r := ans_one ha' HA.out
          subst this
          have h15 := hide (h14.out.trans (hb5.mono h14.out.size))
          have HG5 := hide (show GotU w5 v b r' from HG.out.later hb5)
          clear ha' hb5 HG
          go_wp2_with fail
          refine (same_got HG5.out).mono ?_
          rintro e w6 ⟨rfl, rfl⟩
          go_wp2
          go_ret
          exact ⟨rfl, HBw.out.trans (h15.out.mono HBw.out.size)⟩
    · go_wp2
      go_ret
      exact ⟨rfl, HB.out⟩
  · go_wp2
    all_goals first
      | (exfalso; omega)
      | (go_ret
         exact ⟨rfl, Below.refl _ _⟩)
end Go.Proofs.Qxb6609279a
