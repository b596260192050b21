import Derived.Test.Qxb6609265aFmtWalkA
namespace Go.Proofs.Qxb6609265aFmt
open Go.ChangeShapes Go.WideShapes Go.ChangeAt Go.RowKit
set_option linter.unusedVariables false

set_option maxHeartbeats 800000 in
theorem plainAt_any (a : Option Addr) (n c : Nat) (ss : List ByteArray) (nm msg : ByteArray) (w : World) (hl : SL w a n c ss) :
    Calls Tryf.prog 9 #[.slice a n c, .string nm, .string msg] w fun e w' => e = .returned (.tuple #[.slice a n c, .bool true]) ∧ SL w' a n c ss ∧ Below w.heap.size w w' := by
  have HL := hide hl
  clear hl
  go_enter Tryf.func9, Tryf.ntmps9
  go_wp2_with fail
  refine (new_any msg _).mono ?_
  rintro e w1 ⟨rfl, rfl⟩
  go_wp2_with fail
  have hb1 : Below w.heap.size w (w.alloc (.cells #[.string msg] 45)) := (Below.refl _ _).alloc (Nat.le_refl _) _
  refine (within_plain a n c ss nm msg w.heap.size _ (HL.out.later hb1) (by simp) (by simp)).mono ?_
  rintro e w2 ⟨b, rfl, hk, hb2⟩
  have HK := hide hk
  have hb3 := hb1.trans (hb2.mono (by simp))
  clear hk hb2
  go_wp2_with fail
  refine (keyAt_any b a n c ss _ HK.out).mono ?_
  rintro e w3 ⟨rfl, hb4⟩
  have hb5 := hb3.trans (hb4.mono hb3.size)
  go_wp2
  go_ret2
  exact ⟨rfl, HL.out.later hb5, hb5⟩

set_option maxHeartbeats 800000 in
theorem twiceAt_any (a1 a2 : Option Addr) (n1 n2 c1 c2 : Nat) (s1 s2 : List ByteArray) (m1 m2 msg : ByteArray) (w : World) (l1 : SL w a1 n1 c1 s1) (l2 : SL w a2 n2 c2 s2) (b1 : n1 ≤ 2097152) (b2 : n2 ≤ 2097152) :
    Calls Tryf.prog 7 #[.slice a1 n1 c1, .slice a2 n2 c2, .string m1, .string m2, .string msg] w fun e w' => ∃ a c, e = .returned (.tuple #[.slice a (n1 + n2) c, .bool true]) ∧ SL w' a (n1 + n2) c (s1 ++ s2) ∧ Below w.heap.size w w' := by
  have L1 := hide l1
  have L2 := hide l2
  clear l1 l2
  go_enter Tryf.func7, Tryf.ntmps7
  go_wp2_with fail
  refine (new_any msg _).mono ?_
  rintro e w1 ⟨rfl, rfl⟩
  go_wp2_with fail
  have hb1 : Below w.heap.size w (w.alloc (.cells #[.string msg] 45)) := (Below.refl _ _).alloc (Nat.le_refl _) _
  refine (within_plain a2 n2 c2 s2 m1 msg w.heap.size _ (L2.out.later hb1) (by simp) (by simp)).mono ?_
  rintro e w2 ⟨b, rfl, hk, hb2⟩
  have HK := hide hk
  have hb3 := hb1.trans (hb2.mono (by simp))
  clear hk hb2 hb1
  go_wp2_with fail
  refine (within_placed a1 a2 n1 n2 c1 c2 s1 s2 m2 b _ (L1.out.later hb3) HK.out b1 b2).mono ?_
  rintro e w3 ⟨b', a, c, rfl, hk', hb4⟩
  have HK' := hide hk'
  have hb5 := hb3.trans (hb4.mono hb3.size)
  clear hk' hb4 hb3 HK
  go_wp2_with fail
  refine (keyAt_any b' a (n1 + n2) c (s1 ++ s2) _ HK'.out).mono ?_
  rintro e w4 ⟨rfl, hb6⟩
  have HS := hide (HK'.out.sl.later hb6)
  have hb7 := hb5.trans (hb6.mono hb5.size)
  go_wp2
  go_ret2
  exact ⟨a, c, rfl, HS.out, hb7⟩

set_option maxHeartbeats 800000 in
theorem clone_any (a : Option Addr) (n c : Nat) (ss : List ByteArray) (w : World) (hl : SL w a n c ss) (hn : n ≤ 2097152) :
    Calls Tryf.prog 6 #[.slice a n c] w fun e w' => ∃ a' c', e = .returned (.slice a' n c') ∧ SL w' a' n c' ss ∧ Below w.heap.size w w' := by
  have hne := fun (w : World) (a : Option Addr) (n c : Nat) => Lib.run_eql_slice_nil (P := Tryf.prog) w 22 9 a n c 0 0 Tryf.underlying22
  cases a with
  | none =>
    obtain ⟨rfl, rfl⟩ := hl.nil rfl
    have HL := hide hl
    clear hl
    go_enter Tryf.func6, Tryf.ntmps6
    go_wp2
    go_ret
    exact ⟨none, 0, rfl, HL.out, Below.refl _ _⟩
  | some ad =>
    have HL := hide hl
    clear hl
    obtain ⟨i0, hi, hz0, hz1, hz2⟩ := info_parts Tryf.info9
    go_enter Tryf.func6, Tryf.ntmps6
    go_wp2_with (at_make; refine wpList_make_full _ rfl (.tmp 8) (.tmp 8) 22 rfl w.heap.size 9 i0 (.string ⟨#[]⟩) 1 Tryf.underlying22 hi hz0 hz1 .i64 .i64 _ _ n rfl rfl rfl rfl (by rw [hz2]; omega) (by unfold maxLen; omega) (Nat.le_refl _) ?_; intro w1 hown hgr)
    have hb1 : Below w.heap.size w w1 := (Below.refl _ _).grown hgr (Nat.le_refl _) (fun k hk => by simp at hk)
    clear hgr hi hz0 hz1 hz2 hne
    go_loopw [4] (fun i wr => ∃ (k : Nat) (xs : List Value), k ≤ n ∧ i = .int .i64 k ∧ wr.ownsRow w.heap.size 9 1 (.slice (some ⟨w.heap.size, 0, none⟩) n n) n xs ∧ (∀ j, j < k → xs[j]? = some (.string (ss.getD j ByteArray.empty))) ∧ Below w.heap.size w wr) (fun i _ => n - (intOf i).toNat)
    case atStart => exact ⟨0, _, Nat.zero_le _, rfl, hown, fun j hj => absurd hj (Nat.not_lt_zero _), hb1⟩
    case round =>
      obtain ⟨k, xs, hk, rfl, hown, hcs, hbel⟩ := hrel
      have hlen : xs.length = n := by simpa using hown.1
      by_cases hlt : k < n
      · obtain ⟨b, off, e0, hb, hc⟩ := HL.out.cells (by omega)
        simp only [Option.some.injEq] at e0
        subst e0
        obtain ⟨s, hs⟩ : ∃ s, s = ss.getD k ByteArray.empty := ⟨_, rfl⟩
        have hck : wr.cell? ⟨b, off + k, none⟩ = some (.string s) := by rw [hs]; exact (hbel.cell (p := ⟨b, off + k, none⟩) hb).trans (hc k hlt)
        obtain ⟨u0, hold⟩ : ∃ u, wr.cell? ⟨w.heap.size, k, none⟩ = some u := ⟨xs[k]'(by omega), by rw [hown.cellAt k (by omega)]; simp⟩
        have hfr : wr.frozen? ⟨w.heap.size, k, none⟩ = false := hown.frozenAt k
        have HS := hide (hown.stored k (.string s)).1
        have HB := hide (hbel.setCell (p := ⟨w.heap.size, k, none⟩) (Nat.le_refl _) (.string s))
        have HE := hide hs
        clear hown hbel hc hs
        go_wp2
        go_roundw
        case rel =>
          refine ⟨k + 1, _, by omega, by go_num, HS.out, fun j hj => ?_, HB.out⟩
          by_cases e : j = k
          · subst e
            rw [List.getElem?_set_self (by omega), HE.out]
          · rw [List.getElem?_set_ne (by omega)]
            exact hcs j (by omega)
        case measure => simp [intOf]; omega
      · have hsl : SL wr (some ⟨w.heap.size, 0, none⟩) n n ss := ⟨HL.out.len, fun _ => ⟨w.heap.size, 0, rfl, (hown.lt w.heap.size rfl).2, fun i hi => by rw [Nat.zero_add, hown.cellAt i (by omega)]; exact hcs i (by omega)⟩, fun h => by simp at h⟩
        have HS := hide hsl
        clear hsl hown
        go_wp2
        go_ret
        exact ⟨_, _, rfl, HS.out, hbel⟩
end Go.Proofs.Qxb6609265aFmt
