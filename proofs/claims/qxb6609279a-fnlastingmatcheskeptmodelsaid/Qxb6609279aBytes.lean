import Derived.Test.Qxb6609279aFill
namespace Go.Proofs.Qxb6609279a
open Go.ChangeShapes Go.WideShapes Go.ChangeAt Go.RowKit Go.Maps
set_option linter.unusedVariables false

def BytesPost (w : World) (e : Ending) (w' : World) : Prop := ∃ r, e = .returned (.bool r) ∧ w' = w
theorem bytes_post (w : World) (r : Bool) : BytesPost w (.returned (.bool r)) w := ⟨r, rfl, rfl⟩

set_option maxHeartbeats 3200000 in
set_option maxRecDepth 100000 in
theorem bytes_any (now : Int) (a : Option Addr) (c : Nat) (ents : List Ent) (host path account : ByteArray) (w : World) (hn : ents.length ≤ 9223372036854775807) (h : Ents w w.heap.size a ents)
    (hwf : ∀ (i : Nat) e, ents[i]? = some e → EntWf e) (s1 : host.size ≤ 9223372036854775807) (s2 : path.size ≤ 9223372036854775807) (s3 : account.size ≤ 9223372036854775807) :
    Calls Try.prog 4 #[.int .i64 now, .slice a ents.length c, .string host, .string path, .string account] w fun e w' => BytesPost w e w' := by
  have HE := hide h
  have HW := hide hwf
  clear h hwf
  by_cases hbig : ents.length ≤ 1048576
  · go_enter Try.func4, Try.ntmps4
    go_wp2_with fail
    go_loop [11, 12] (fun z i => ∃ (k : Nat) (t : Int), k ≤ ents.length ∧ i = .int .i64 k ∧ z = .int .i64 t ∧ 0 ≤ t ∧ t ≤ 1048576) (fun _ i => ents.length - (intOf i).toNat)
    case atStart => exact ⟨0, ents.length, Nat.zero_le _, rfl, rfl, by omega, by omega⟩
    case round =>
      obtain ⟨k, t, hk, rfl, rfl, ht0, ht1⟩ := hrel
      by_cases hlt : k < ents.length
      · obtain ⟨e, he⟩ : ∃ e, ents[k]? = some e := ⟨_, List.getElem?_eq_getElem hlt⟩
        obtain ⟨b, off, rfl, hb, c0, c1, c2, c3, c4, c5⟩ := HE.out k e he
        obtain ⟨z0, z1, z2, z3, z4, _⟩ := HW.out k e he
        unfold maxLen at z0 z1 z2 z3 z4
        clear he c4
        go_wp2
        all_goals first
          | (go_ret
             exact bytes_post _ _)
          | (go_round
             case rel => exact ⟨k + 1, _, by omega, by go_num, rfl, by omega, by omega⟩
             case measure => simp [intOf]; omega)
      · go_wp2
        all_goals
          go_ret
          exact bytes_post _ _
  · go_enter Try.func4, Try.ntmps4
    go_wp2
    go_ret
    exact bytes_post _ _

def SizePost (w : World) (e : Ending) (w' : World) : Prop := ∃ r : Int, e = .returned (.int .i64 r) ∧ 0 ≤ r ∧ r ≤ 1073741824 ∧ Below w.heap.size w w'

set_option maxHeartbeats 3200000 in
set_option maxRecDepth 100000 in
theorem size_any (a : Option Addr) (c : Nat) (ents : List Ent) (w : World) (hn : ents.length ≤ 9223372036854775807) (h : Ents w w.heap.size a ents)
    (hwf : ∀ (i : Nat) e, ents[i]? = some e → EntWf e) :
    Calls Try.prog 5 #[.slice a ents.length c] w fun e w' => SizePost w e w' := by
  have HE := hide h
  have HW := hide hwf
  clear h hwf
  by_cases hbig : ents.length ≤ 65536
  · go_enter Try.func5, Try.ntmps5
    go_wp2_with fail
    go_loopw [3, 4, 5] (fun z i _ wr => ∃ (k : Nat) (t : Int), k ≤ ents.length ∧ i = .int .i64 k ∧ z = .int .i64 t ∧ 0 ≤ t ∧ t ≤ 6000000 ∧ Hid (Below w.heap.size w wr)) (fun _ i _ _ => ents.length - (intOf i).toNat)
    case atStart => exact ⟨0, _, Nat.zero_le _, rfl, rfl, by omega, by omega, hide (Below.refl _ _)⟩
    case round =>
      obtain ⟨k, t, hk, rfl, rfl, ht0, ht1, hbr⟩ := hrel
      by_cases hlt : k < ents.length
      · obtain ⟨e, he⟩ : ∃ e, ents[k]? = some e := ⟨_, List.getElem?_eq_getElem hlt⟩
        obtain ⟨b, off, rfl, hb, c0, c1, c2, c3, c4, c5⟩ := (HE.out.later hbr.out (Nat.le_refl _)) k e he
        obtain ⟨z0, z1, z2, z3, z4, _⟩ := HW.out k e he
        unfold maxLen at z0 z1 z2 z3 z4
        have HB := hide (hbr.out.alloc hbr.out.size (.cells #[.string e.kt, .string e.h, .string e.p, .string e.ac, .int .i64 e.ex, .string e.us] 27))
        clear he
        by_cases g0 : e.kt.size ≤ 1048576 ∧ e.h.size ≤ 1048576 ∧ e.p.size ≤ 1048576 ∧ e.ac.size ≤ 1048576 ∧ e.us.size ≤ 1048576
        · obtain ⟨g0, g1, g2, g3, g4⟩ := g0
          go_wp2
          · go_ret
            exact ⟨_, rfl, by omega, by omega, HB.out⟩
          · go_roundw
            case rel => exact ⟨k + 1, _, by omega, by go_num, rfl, by omega, by omega, HB⟩
            case measure => simp [intOf]; omega
        · go_wp2
          all_goals first
            | (exfalso; omega)
            | (go_ret
               exact ⟨_, rfl, by omega, by omega, HB.out⟩)
      · go_wp2
        go_ret
        exact ⟨_, rfl, by omega, by omega, hbr.out⟩
  · go_enter Try.func5, Try.ntmps5
    go_wp2
    go_ret
    exact ⟨_, rfl, by omega, by omega, Below.refl _ _⟩

end Go.Proofs.Qxb6609279a
