import Derived.Test.Qxb6609265aFmtWalkC
namespace Go.Proofs.Qxb6609265aFmt
open Go.ChangeShapes Go.WideShapes Go.ChangeAt Go.RowKit
set_option linter.unusedVariables false

/-- What zzBytes answers, and what 'true' means. -/
def BytesPost (n1 n2 : Nat) (s1 s2 : List ByteArray) (m1 m2 msg : ByteArray) (w : World) (e : Ending) (w' : World) : Prop :=
  ∃ r, e = .returned (.bool r) ∧ w' = w ∧ (r = true → n1 ≤ 1048576 ∧ sumS s1 ≤ 1048576 ∧ n2 ≤ 1048576 ∧ sumS s2 ≤ 1048576 ∧ m1.size ≤ 1048576 ∧ m2.size ≤ 1048576 ∧ msg.size ≤ 1048576)
theorem bytes_no {n1 n2 : Nat} {s1 s2 : List ByteArray} {m1 m2 msg : ByteArray} {w : World} {e : Ending} (h : e = .returned (.bool false)) : BytesPost n1 n2 s1 s2 m1 m2 msg w e w :=
  ⟨false, h, rfl, fun h => absurd h (by decide)⟩
theorem bytes_yes {n1 n2 : Nat} {s1 s2 : List ByteArray} {m1 m2 msg : ByteArray} {w : World} {e : Ending} (h : e = .returned (.bool true)) (t1 : n1 ≤ 1048576) (t2 : sumS s1 ≤ 1048576) (t3 : n2 ≤ 1048576) (t4 : sumS s2 ≤ 1048576) (t5 : m1.size ≤ 1048576) (t6 : m2.size ≤ 1048576) (t7 : msg.size ≤ 1048576) : BytesPost n1 n2 s1 s2 m1 m2 msg w e w :=
  ⟨true, h, rfl, fun _ => ⟨t1, t2, t3, t4, t5, t6, t7⟩⟩

set_option maxHeartbeats 3200000 in
theorem bytes_any (a1 a2 : Option Addr) (n1 n2 c1 c2 : Nat) (s1 s2 : List ByteArray) (m1 m2 msg : ByteArray) (w : World) (l1 : SL w a1 n1 c1 s1) (l2 : SL w a2 n2 c2 s2) (x1 : n1 ≤ maxLen) (x2 : n2 ≤ maxLen) (y1 : m1.size ≤ maxLen) (y2 : m2.size ≤ maxLen) (y3 : msg.size ≤ maxLen) :
    Calls Tryf.prog 4 #[.slice a1 n1 c1, .slice a2 n2 c2, .string m1, .string m2, .string msg] w (BytesPost n1 n2 s1 s2 m1 m2 msg w) := by
  unfold maxLen at x1 x2 y1 y2 y3
  have L1 := hide l1
  have L2 := hide l2
  clear l1 l2
  by_cases t1 : n1 ≤ 1048576
  case neg =>
    go_enter Tryf.func4, Tryf.ntmps4
    go_wp2
    go_ret
    exact bytes_no rfl
  go_enter Tryf.func4, Tryf.ntmps4
  go_wp2
  go_loop [11, 12] (fun t i => ∃ k : Nat, k ≤ n1 ∧ i = .int .i64 k ∧ t = .int .i64 ((n1 + sumS (s1.take k) : Nat) : Int) ∧ n1 + sumS (s1.take k) ≤ 1048576) (fun _ i => n1 - (intOf i).toNat)
  case atStart => exact ⟨0, Nat.zero_le _, rfl, by simp [sumS], by simp [sumS]; omega⟩
  case round =>
    obtain ⟨k, hk, rfl, rfl, hle⟩ := hrel
    by_cases hlt : k < n1
    · obtain ⟨b, off, e0, hb, hc⟩ := L1.out.cells (by omega)
      subst e0
      obtain ⟨s, hs⟩ : ∃ s, s = s1.getD k ByteArray.empty := ⟨_, rfl⟩
      have hck : w.cell? ⟨b, off + k, none⟩ = some (.string s) := by rw [hs]; exact hc k hlt
      have HN := hide (sumS_next s1 k s (by rw [L1.out.len]; exact hlt) hs)
      obtain ⟨t, ht⟩ : ∃ t, t = sumS (s1.take k) := ⟨_, rfl⟩
      rw [← ht] at hle ⊢
      have HT := hide ht
      clear hs hc ht
      by_cases z1 : s.size ≤ 1048576
      · by_cases z2 : n1 + t + s.size ≤ 1048576
        · go_wp2
          go_round
          case rel => exact ⟨k + 1, by omega, by go_num, by rw [HN.out, ← HT.out]; go_num, by rw [HN.out, ← HT.out]; omega⟩
          case measure => simp [intOf]; omega
        · go_wp2
          go_ret
          exact bytes_no rfl
      · go_wp2
        go_ret
        exact bytes_no rfl
    · have ek : n1 = k := by omega
      subst ek
      have e1 : s1.take n1 = s1 := by rw [← L1.out.len]; exact List.take_length
      rw [e1] at hle ⊢
      obtain ⟨t, ht⟩ : ∃ t, t = sumS s1 := ⟨_, rfl⟩
      rw [← ht] at hle ⊢
      have HT1 := hide ht
      clear e1 hlt ht
      by_cases t2 : n2 ≤ 1048576
      case neg =>
        go_wp2
        go_ret
        exact bytes_no rfl
      by_cases t3 : n1 + t + n2 ≤ 1048576
      case neg =>
        go_wp2
        go_ret
        exact bytes_no rfl
      go_wp2
      go_loop [11, 13] (fun u i => ∃ k : Nat, k ≤ n2 ∧ i = .int .i64 k ∧ u = .int .i64 ((n1 + t + n2 + sumS (s2.take k) : Nat) : Int) ∧ n1 + t + n2 + sumS (s2.take k) ≤ 1048576) (fun _ i => n2 - (intOf i).toNat)
      case atStart => exact ⟨0, Nat.zero_le _, rfl, by simp [sumS], by simp [sumS]; omega⟩
      case round =>
        obtain ⟨k, hk, rfl, rfl, hle2⟩ := hrel
        by_cases hlt : k < n2
        · obtain ⟨b, off, e0, hb, hc⟩ := L2.out.cells (by omega)
          subst e0
          obtain ⟨s, hs⟩ : ∃ s, s = s2.getD k ByteArray.empty := ⟨_, rfl⟩
          have hck : w.cell? ⟨b, off + k, none⟩ = some (.string s) := by rw [hs]; exact hc k hlt
          have HN := hide (sumS_next s2 k s (by rw [L2.out.len]; exact hlt) hs)
          obtain ⟨u, hu⟩ : ∃ u, u = sumS (s2.take k) := ⟨_, rfl⟩
          rw [← hu] at hle2 ⊢
          have HU := hide hu
          clear hs hc hu
          by_cases z1 : s.size ≤ 1048576
          · by_cases z2 : n1 + t + n2 + u + s.size ≤ 1048576
            · go_wp2
              go_round
              case rel => exact ⟨k + 1, by omega, by go_num, by rw [HN.out, ← HU.out]; go_num, by rw [HN.out, ← HU.out]; omega⟩
              case measure => simp [intOf]; omega
            · go_wp2
              go_ret
              exact bytes_no rfl
          · go_wp2
            go_ret
            exact bytes_no rfl
        · have ek : n2 = k := by omega
          subst ek
          have e1 : s2.take n2 = s2 := by rw [← L2.out.len]; exact List.take_length
          rw [e1] at hle2 ⊢
          obtain ⟨u, hu⟩ : ∃ u, u = sumS s2 := ⟨_, rfl⟩
          rw [← hu] at hle2 ⊢
          have HU1 := hide hu
          clear e1 hlt hu
          go_wp2
          all_goals (go_ret; first | exact bytes_no rfl | exact bytes_yes rfl t1 (by rw [← HT1.out]; omega) t2 (by rw [← HU1.out]; omega) (by omega) (by omega) (by omega))

set_option maxHeartbeats 1600000 in
theorem law (a1 a2 : Option Addr) (n1 n2 c1 c2 : Nat) (s1 s2 : List ByteArray) (m1 m2 msg : ByteArray) (w : World) (l1 : SL w a1 n1 c1 s1) (l2 : SL w a2 n2 c2 s2) (x1 : n1 ≤ maxLen) (x2 : n2 ≤ maxLen) (y1 : m1.size ≤ maxLen) (y2 : m2.size ≤ maxLen) (y3 : msg.size ≤ maxLen) :
    Calls Tryf.prog 3 #[.slice a1 n1 c1, .slice a2 n2 c2, .string m1, .string m2, .string msg] w fun e w' => e = .returned (.bool true) ∧ Below w.heap.size w w' := by
  have HB := hide (bytes_any a1 a2 n1 n2 c1 c2 s1 s2 m1 m2 msg w l1 l2 x1 x2 y1 y2 y3)
  have L1 := hide l1
  have L2 := hide l2
  clear l1 l2
  unfold maxLen at x1 x2 y1 y2 y3
  go_enter Tryf.func3, Tryf.ntmps3
  go_wp2_with fail
  refine HB.out.mono ?_
  rintro e w' ⟨r, rfl, rfl, hr⟩
  cases r
  · clear hr
    go_wp2
    go_ret
    exact ⟨rfl, Below.refl _ _⟩
  obtain ⟨t1, t2, t3, t4, t5, t6, t7⟩ := hr rfl
  clear hr HB
  go_wp2_with fail
  refine (strBytes_any a1 n1 c1 s1 _ L1.out t1 t2).mono ?_
  rintro e w1 ⟨rfl, rfl⟩
  go_wp2_with fail
  refine (strBytes_any a2 n2 c2 s2 _ L2.out t3 t4).mono ?_
  rintro e w2 ⟨rfl, rfl⟩
  generalize sumS s1 = z1 at *
  generalize sumS s2 = z2 at *
  by_cases big : (1048576 : Int) < 16 * (n1 : Int) + z1 + (16 * n2 + z2) + m1.size + m2.size + msg.size
  · go_wp2
    go_ret
    exact ⟨rfl, Below.refl _ _⟩
  clear x1 x2 y1 y2 y3
  go_wp2_with fail
  refine (clone_any a1 n1 c1 s1 _ L1.out (by omega)).mono ?_
  rintro e w3 ⟨a1', c1', rfl, k1, hb3⟩
  have K1 := hide k1
  have K2 := hide (L2.out.later hb3)
  have hbw := hb3
  clear k1 L1 L2 hb3
  go_wp2_with fail
  refine (clone_any a2 n2 c2 s2 _ K2.out (by omega)).mono ?_
  rintro e w4 ⟨a2', c2', rfl, k2, hb4⟩
  replace K1 := hide (K1.out.later hb4)
  replace K2 := hide k2
  replace hbw := hbw.trans (hb4.mono hbw.size)
  clear k2 hb4
  go_wp2_with fail
  refine (twiceAt_any a1' a2' n1 n2 c1' c2' s1 s2 m1 m2 msg _ K1.out K2.out (by omega) (by omega)).mono ?_
  rintro e w5 ⟨a3, c3, rfl, k3, hb5⟩
  replace K1 := hide (K1.out.later hb5)
  replace K2 := hide (K2.out.later hb5)
  have K3 := hide k3
  replace hbw := hbw.trans (hb5.mono hbw.size)
  clear k3 hb5
  go_wp2_with fail
  refine (zzConcat_any a1' a2' n1 n2 c1' c2' s1 s2 _ K1.out K2.out (by omega) (by omega)).mono ?_
  rintro e w6 ⟨a4, c4, rfl, k4, hb6⟩
  replace K3 := hide (K3.out.later hb6)
  have K4 := hide k4
  replace hbw := hbw.trans (hb6.mono hbw.size)
  clear k4 hb6 K1 K2
  go_wp2_with fail
  refine (clone_any a4 (n1 + n2) c4 (s1 ++ s2) _ K4.out (by omega)).mono ?_
  rintro e w7 ⟨a5, c5, rfl, k5, hb7⟩
  replace K3 := hide (K3.out.later hb7)
  replace K4 := hide (K4.out.later hb7)
  have K5 := hide k5
  replace hbw := hbw.trans (hb7.mono hbw.size)
  clear k5 hb7
  go_wp2_with fail
  refine (plainAt_any a5 (n1 + n2) c5 (s1 ++ s2) m2 msg _ K5.out).mono ?_
  rintro e w8 ⟨rfl, k5, hb8⟩
  replace K3 := hide (K3.out.later hb8)
  replace K4 := hide (K4.out.later hb8)
  replace K5 := hide k5
  replace hbw := hbw.trans (hb8.mono hbw.size)
  clear k5 hb8
  go_wp2_with fail
  refine (equal_any a3 a4 (n1 + n2) c3 c4 (s1 ++ s2) _ K3.out K4.out (by omega)).mono ?_
  rintro e w9 ⟨rfl, hb9⟩
  replace K4 := hide (K4.out.later hb9)
  replace K5 := hide (K5.out.later hb9)
  replace hbw := hbw.trans (hb9.mono hbw.size)
  clear hb9 K3
  go_wp2_with fail
  refine (equal_any a5 a4 (n1 + n2) c5 c4 (s1 ++ s2) _ K5.out K4.out (by omega)).mono ?_
  rintro e w10 ⟨rfl, hb10⟩
  replace hbw := hbw.trans (hb10.mono hbw.size)
  go_wp2
  go_ret
  exact ⟨rfl, hbw⟩
end Go.Proofs.Qxb6609265aFmt
