import Derived.Test.Qxb6609265aFmtWalkB
namespace Go.Proofs.Qxb6609265aFmt
open Go.ChangeShapes Go.WideShapes Go.ChangeAt Go.RowKit
set_option linter.unusedVariables false

theorem one_SL (w : World) (s : ByteArray) : SL (w.alloc (.cells #[.string s] 9)) (some ⟨w.heap.size, 0, none⟩) 1 1 [s] :=
  ⟨rfl, fun _ => ⟨w.heap.size, 0, rfl, by simp, fun i hi => by
    have : i = 0 := by omega
    subst this
    simp⟩, fun h => by simp at h⟩

theorem take_next (ss : List ByteArray) (k : Nat) (s : ByteArray) (h : k < ss.length) (hs : s = ss.getD k ByteArray.empty) : (ss.take k).map Value.string ++ [s].map Value.string = (ss.take (k + 1)).map Value.string := by
  rw [← List.map_append, List.take_succ_eq_append_getElem h, hs]
  simp [h]

set_option maxHeartbeats 1600000 in
theorem zzConcat_any (a1 a2 : Option Addr) (n1 n2 c1 c2 : Nat) (s1 s2 : List ByteArray) (w : World) (l1 : SL w a1 n1 c1 s1) (l2 : SL w a2 n2 c2 s2) (b1 : n1 ≤ 2097152) (b2 : n2 ≤ 2097152) :
    Calls Tryf.prog 8 #[.slice a1 n1 c1, .slice a2 n2 c2] w fun e w' => ∃ a c, e = .returned (.slice a (n1 + n2) c) ∧ SL w' a (n1 + n2) c (s1 ++ s2) ∧ Below w.heap.size w w' := by
  have L1 := hide l1
  have L2 := hide l2
  clear l1 l2
  obtain ⟨i0, hi, hz0, hz1, hz2⟩ := info_parts Tryf.info9
  go_enter Tryf.func8, Tryf.ntmps8
  go_wp2_with (at_make; refine wpList_make_own _ rfl (.const (.int .i64 0)) (.tmp 12) 22 rfl w.heap.size 9 i0 (.string ⟨#[]⟩) 1 Tryf.underlying22 hi hz0 hz1 .i64 .i64 _ (n1 + n2) rfl rfl (by omega) (by rw [hz2]; omega) (by unfold maxLen; omega) (Nat.le_refl _) ?_; intro w1 hown hgr)
  have hb1 : Below w.heap.size w w1 := (Below.refl _ _).grown hgr (Nat.le_refl _) (fun k hk => by simp at hk)
  clear hgr hi hz0 hz1 hz2
  go_loopw [5, 6] (fun v i wr => ∃ k : Nat, k ≤ n1 ∧ i = .int .i64 k ∧ wr.ownsRow w.heap.size 9 1 v k ((s1.take k).map Value.string) ∧ Below w.heap.size w wr) (fun _ i _ => n1 - (intOf i).toNat)
  case atStart => exact ⟨0, Nat.zero_le _, rfl, hown, hb1⟩
  case round =>
    rename_i v _
    clear hown hb1
    obtain ⟨k, hk, rfl, hown, hbel⟩ := hrel
    by_cases hlt : k < n1
    · obtain ⟨b, off, e0, hb, hc⟩ := L1.out.cells (by omega)
      obtain ⟨s, hs⟩ : ∃ s, s = s1.getD k ByteArray.empty := ⟨_, rfl⟩
      have hck : wr.cell? ⟨b, off + k, none⟩ = some (.string s) := by rw [hs]; exact (hbel.cell (p := ⟨b, off + k, none⟩) hb).trans (hc k hlt)
      have HT := hide (take_next s1 k s (by rw [L1.out.len]; exact hlt) hs)
      have hsz := hbel.size
      clear hs hc
      subst e0
      go_wp2_with (at_builtin; refine wpList_append_strs rfl (.tmp 20) (.tmp 25) 22 rfl Tryf.underlying22 w.heap.size _ k _ rfl (hown.alloc _) (some ⟨wr.heap.size, 0, none⟩) 1 1 [s] rfl (one_SL wr s) (by omega) (by simp; omega) ?_; intro v2 w2 hown2 hgr2)
      have hb2 : Below w.heap.size w w2 := (hbel.alloc hsz _).grown hgr2 (by simp; omega) (fun k hk => (hown.lt k hk).1)
      rw [HT.out] at hown2
      have HO2 := hide hown2
      clear hown2 hgr2 hown hbel hck
      go_wp2
      go_roundw
      case rel => exact ⟨k + 1, by omega, by go_num, HO2.out, hb2⟩
      case measure => simp [intOf]; omega
    · have ek : n1 = k := by omega
      subst ek
      rename World => wv
      have e1 : s1.take n1 = s1 := by rw [← L1.out.len]; exact List.take_length
      rw [e1] at hown
      have HOW := hide hown
      clear e1 hlt hown
      go_wp2
      go_loopw [5, 7] (fun v i wr => ∃ k : Nat, k ≤ n2 ∧ i = .int .i64 k ∧ wr.ownsRow w.heap.size 9 1 v (n1 + k) ((s1 ++ s2.take k).map Value.string) ∧ Below w.heap.size w wr) (fun _ i _ => n2 - (intOf i).toNat)
      case atStart => exact ⟨0, Nat.zero_le _, rfl, by simpa using HOW.out, hbel⟩
      case round =>
        clear HOW hbel
        obtain ⟨k, hk, rfl, hown, hbel⟩ := hrel
        by_cases hlt : k < n2
        · obtain ⟨b, off, e0, hb, hc⟩ := L2.out.cells (by omega)
          obtain ⟨s, hs⟩ : ∃ s, s = s2.getD k ByteArray.empty := ⟨_, rfl⟩
          have hck : wr.cell? ⟨b, off + k, none⟩ = some (.string s) := by rw [hs]; exact (hbel.cell (p := ⟨b, off + k, none⟩) hb).trans (hc k hlt)
          have HT := hide (take_next s2 k s (by rw [L2.out.len]; exact hlt) hs)
          have hsz := hbel.size
          clear hs hc
          subst e0
          go_wp2_with (at_builtin; refine wpList_append_strs rfl (.tmp 33) (.tmp 38) 22 rfl Tryf.underlying22 w.heap.size _ (n1 + k) _ rfl (hown.alloc _) (some ⟨wr.heap.size, 0, none⟩) 1 1 [s] rfl (one_SL wr s) (by omega) (by simp; omega) ?_; intro v2 w2 hown2 hgr2)
          have hb2 : Below w.heap.size w w2 := (hbel.alloc hsz _).grown hgr2 (by simp; omega) (fun k hk => (hown.lt k hk).1)
          rw [List.map_append, List.append_assoc, HT.out, ← List.map_append, Nat.add_assoc] at hown2
          have HO2 := hide hown2
          clear hown2 hgr2 hown hbel hck
          go_wp2
          go_roundw
          case rel => exact ⟨k + 1, by omega, by go_num, HO2.out, hb2⟩
          case measure => simp [intOf]; omega
        · have ek : n2 = k := by omega
          subst ek
          have e1 : s2.take n2 = s2 := by rw [← L2.out.len]; exact List.take_length
          rw [e1] at hown
          obtain ⟨a3, c3, ev, hsl⟩ := own_SL hown
          have HS := hide hsl
          clear hown hsl e1
          subst ev
          go_wp2
          go_ret
          exact ⟨a3, c3, rfl, HS.out, hbel⟩

set_option maxHeartbeats 800000 in
theorem equal_any (a1 a2 : Option Addr) (n c1 c2 : Nat) (ss : List ByteArray) (w : World) (l1 : SL w a1 n c1 ss) (l2 : SL w a2 n c2 ss) (b1 : n ≤ 4194304) :
    Calls Tryf.prog 10 #[.slice a1 n c1, .slice a2 n c2] w fun e w' => e = .returned (.bool true) ∧ Below w.heap.size w w' := by
  have L1 := hide l1
  have L2 := hide l2
  clear l1 l2
  go_enter Tryf.func10, Tryf.ntmps10
  go_wp2
  go_loopw [5] (fun i wr => ∃ k : Nat, k ≤ n ∧ i = .int .i64 k ∧ Below w.heap.size w wr) (fun i _ => n - (intOf i).toNat)
  case atStart => exact ⟨0, Nat.zero_le _, rfl, Below.refl _ _⟩
  case round =>
    obtain ⟨k, hk, rfl, hbel⟩ := hrel
    by_cases hlt : k < n
    · obtain ⟨b, off, e0, hb, hc⟩ := L1.out.cells (by omega)
      obtain ⟨b', off', e0', hb', hc'⟩ := L2.out.cells (by omega)
      subst e0 e0'
      obtain ⟨s, hs⟩ : ∃ s, s = ss.getD k ByteArray.empty := ⟨_, rfl⟩
      have hck : wr.cell? ⟨b, off + k, none⟩ = some (.string s) := by rw [hs]; exact (hbel.cell (p := ⟨b, off + k, none⟩) hb).trans (hc k hlt)
      have hck' : wr.cell? ⟨b', off' + k, none⟩ = some (.string s) := by rw [hs]; exact (hbel.cell (p := ⟨b', off' + k, none⟩) hb').trans (hc' k hlt)
      have hd : (k : Int) < (n : Int) := by omega
      clear hs hc hc'
      go_wp2
      go_quiet (fail)
      go_wp2
      go_roundw
      case rel => exact ⟨k + 1, by omega, by go_num, below_drewN hbel _⟩
      case measure => simp [intOf]; omega
    · go_wp2
      go_ret
      exact ⟨rfl, hbel⟩

/-- The bytes of the strings. -/
def sumS (ss : List ByteArray) : Nat := (ss.map ByteArray.size).sum

theorem sumS_next (ss : List ByteArray) (k : Nat) (s : ByteArray) (h : k < ss.length) (hs : s = ss.getD k ByteArray.empty) : sumS (ss.take (k + 1)) = sumS (ss.take k) + s.size := by
  unfold sumS
  rw [List.take_succ_eq_append_getElem h, List.map_append, List.sum_append_nat, hs]
  simp [h]

theorem sumS_le (ss : List ByteArray) (k : Nat) : sumS (ss.take k) ≤ sumS ss := by
  conv => rhs; rw [← List.take_append_drop k ss]
  unfold sumS
  rw [List.map_append, List.sum_append_nat]
  omega

set_option maxHeartbeats 800000 in
theorem strBytes_any (a : Option Addr) (n c : Nat) (ss : List ByteArray) (w : World) (hl : SL w a n c ss) (b1 : n ≤ 1048576) (b2 : sumS ss ≤ 1048576) :
    Calls Tryf.prog 5 #[.slice a n c] w fun e w' => e = .returned (.int .i64 ((16 * n + sumS ss : Nat) : Int)) ∧ w' = w := by
  have HL := hide hl
  clear hl
  go_enter Tryf.func5, Tryf.ntmps5
  go_wp2
  go_loop [3, 4] (fun t i => ∃ k : Nat, k ≤ n ∧ i = .int .i64 k ∧ t = .int .i64 ((16 * n + sumS (ss.take k) : Nat) : Int)) (fun _ i => n - (intOf i).toNat)
  case atStart => exact ⟨0, Nat.zero_le _, rfl, by simp [sumS]⟩
  case round =>
    obtain ⟨k, hk, rfl, rfl⟩ := hrel
    have hle := sumS_le ss k
    by_cases hlt : k < n
    · obtain ⟨b, off, e0, hb, hc⟩ := HL.out.cells (by omega)
      subst e0
      obtain ⟨s, hs⟩ : ∃ s, s = ss.getD k ByteArray.empty := ⟨_, rfl⟩
      have hck : w.cell? ⟨b, off + k, none⟩ = some (.string s) := by rw [hs]; exact hc k hlt
      have hnx := sumS_next ss k s (by rw [HL.out.len]; exact hlt) hs
      have hle2 := sumS_le ss (k + 1)
      have hss : s.size ≤ 1048576 := by omega
      have HN := hide hnx
      obtain ⟨t, ht⟩ : ∃ t, t = sumS (ss.take k) := ⟨_, rfl⟩
      rw [← ht] at hle ⊢
      have HT := hide ht
      clear hs hc hnx hle2 ht
      go_wp2
      go_round
      case rel => exact ⟨k + 1, by omega, by go_num, by rw [HN.out, ← HT.out]; go_num⟩
      case measure => simp [intOf]; omega
    · have ek : n = k := by omega
      subst ek
      have e1 : ss.take n = ss := by rw [← HL.out.len]; exact List.take_length
      rw [e1]
      go_wp2
      go_ret
      exact ⟨rfl, rfl⟩
end Go.Proofs.Qxb6609265aFmt
