import Derived.Test.Qxb6612563aRows
import Derived.Test.Qxb6612563aPlain
import Derived.WalkKit
import Derived.ProofKit
import Derived.Below
namespace Go.Proofs.Qxb6612563a
open Go.ChangeShapes Go.WideShapes Go.ChangeAt Go.RowKit
set_option linter.unusedVariables false

/-- A slice of integers whose elements are 'zs', all of it below block B. -/
def Ints (w : World) (B : Nat) (a : Option Addr) (zs : List Int) : Prop :=
  0 < zs.length → ∃ b off, a = some ⟨b, off, none⟩ ∧ b < B ∧ ∀ i, i < zs.length → w.cell? ⟨b, off + i, none⟩ = some (.int .i64 (zs.getD i 0))

set_option maxHeartbeats 400000 in
theorem first_any (a : Option Addr) (c : Nat) (zs : List Int) (x : Int) (w : World) (B : Nat) (hn : zs.length ≤ 1024) (h : Ints w B a zs) :
    Calls Try.prog 10 #[.slice a zs.length c, .int .i64 x] w fun e w' => ∃ r, e = .returned (.int .i64 r) ∧ Plain.IsFirst zs x r ∧ w' = w := by
  go_enter Try.func10, Try.ntmps10
  go_wp2
  go_loop [5] (fun i => ∃ k : Nat, k ≤ zs.length ∧ i = .int .i64 k ∧ ∀ j, j < k → zs.getD j 0 ≠ x) (fun i => zs.length - (intOf i).toNat)
  case atStart => exact ⟨0, Nat.zero_le _, rfl, fun j hj => absurd hj (Nat.not_lt_zero _)⟩
  case round =>
    obtain ⟨k, hk, rfl, hno⟩ := hrel
    by_cases hlt : k < zs.length
    · obtain ⟨b, off, rfl, hb, hc⟩ := h (by omega)
      have hck := hc k hlt
      clear hc h
      go_wp2
      · have ht : (zs[k] == x) = true := by assumption
        go_ret
        exact ⟨_, rfl, .inr ⟨k, rfl, hlt, by simpa [hlt] using ht, hno⟩, rfl⟩
      · have ht : (zs[k] == x) = false := by assumption
        go_round
        case rel =>
          refine ⟨k + 1, by omega, by go_num, fun j hj => ?_⟩
          by_cases e : j = k
          · subst e; simpa [hlt] using ht
          · exact hno j (by omega)
        case measure => simp [intOf]; omega
    · go_wp2
      go_ret
      exact ⟨_, rfl, .inl ⟨rfl, fun i hi => hno i (by omega)⟩, rfl⟩

/-- feedIndex's own test: 'f.peer == p'. -/
theorem test_any (p f o x : Int) (bx : Nat) (w : World) (hx : bx < w.heap.size) (hc : w.cell? ⟨bx, 0, none⟩ = some (.int .i64 x)) :
    Calls Try.prog 17 #[.agg #[.int .i64 p, .int .i64 f, .int .i64 o], .pointer (some ⟨bx, 0, none⟩)] w fun e w' => e = .returned (.bool (p == x)) ∧ Below w.heap.size w w' := by
  go_enter Try.func17, Try.ntmps17
  go_wp2
  go_ret
  exact ⟨rfl, (Below.refl _ _).alloc (Nat.le_refl _) _⟩

/-- A slice of feeds: (peer, 0, overtaken), three cells each. -/
def Feeds (w : World) (B : Nat) (a : Option Addr) (ps os : List Int) : Prop :=
  os.length = ps.length ∧ (0 < ps.length → ∃ b off, a = some ⟨b, off, none⟩ ∧ b < B ∧ ∀ i, i < ps.length → w.cell? ⟨b, off + i * 3, none⟩ = some (.int .i64 (ps.getD i 0)) ∧ w.cell? ⟨b, off + i * 3 + 1, none⟩ = some (.int .i64 0) ∧ w.cell? ⟨b, off + i * 3 + 2, none⟩ = some (.int .i64 (os.getD i 0)))

theorem Ints.later {w w' : World} {B B' : Nat} {a : Option Addr} {zs : List Int} (h : Ints w B a zs) (hb : Below B w w') (hB : B ≤ B') : Ints w' B' a zs := fun h0 => by
  obtain ⟨b, off, e, hlt, hc⟩ := h h0
  exact ⟨b, off, e, by omega, fun i hi => (hb.cell (p := ⟨b, off + i, none⟩) hlt).trans (hc i hi)⟩
theorem Feeds.later {w w' : World} {B B' : Nat} {a : Option Addr} {ps os : List Int} (h : Feeds w B a ps os) (hb : Below B w w') (hB : B ≤ B') : Feeds w' B' a ps os := ⟨h.1, fun h0 => by
  obtain ⟨b, off, e, hlt, hc⟩ := h.2 h0
  refine ⟨b, off, e, by omega, fun i hi => ?_⟩
  obtain ⟨c0, c1, c2⟩ := hc i hi
  exact ⟨(hb.cell (p := ⟨b, off + i * 3, none⟩) hlt).trans c0, (hb.cell (p := ⟨b, off + i * 3 + 1, none⟩) hlt).trans c1, (hb.cell (p := ⟨b, off + i * 3 + 2, none⟩) hlt).trans c2⟩⟩

set_option maxHeartbeats 400000 in
theorem index_feeds (a : Option Addr) (c : Nat) (ps os : List Int) (x : Int) (bx : Nat) (w : World) (hn : ps.length ≤ 1024) (h : Feeds w w.heap.size a ps os) (hx : bx < w.heap.size) (hcx : w.cell? ⟨bx, 0, none⟩ = some (.int .i64 x)) :
    Calls Try.prog 16 #[.slice a ps.length c, .func (.func 17) #[] #[.pointer (some ⟨bx, 0, none⟩)]] w fun e w' => ∃ r, e = .returned (.int .i64 r) ∧ Plain.IsFirst ps x r ∧ Below w.heap.size w w' := by
  go_enter Try.func16, Try.ntmps16
  go_wp2
  go_loopw [5, 8] (fun _ i wr => ∃ k : Nat, k ≤ ps.length ∧ i = .int .i64 k ∧ (∀ j, j < k → ps.getD j 0 ≠ x) ∧ Below w.heap.size w wr) (fun _ i _ => ps.length - (intOf i).toNat)
  case atStart => exact ⟨0, Nat.zero_le _, rfl, fun j hj => absurd hj (Nat.not_lt_zero _), Below.refl _ _⟩
  case round =>
    obtain ⟨k, hk, rfl, hno, hbel⟩ := hrel
    by_cases hlt : k < ps.length
    · obtain ⟨b, off, rfl, hb, hc⟩ := h.2 (by omega)
      obtain ⟨c0, c1, c2⟩ := hc k hlt
      have d0 := (hbel.cell (p := ⟨b, off + k * 3, none⟩) hb).trans c0
      have d1 := (hbel.cell (p := ⟨b, off + k * 3 + 1, none⟩) hb).trans c1
      have d2 := (hbel.cell (p := ⟨b, off + k * 3 + 2, none⟩) hb).trans c2
      have dx := (hbel.cell (p := ⟨bx, 0, none⟩) hx).trans hcx
      clear hc h c0 c1 c2
      go_wp2_with fail
      refine (test_any _ _ _ _ _ _ (by have := hbel.size; omega) dx).mono ?_
      rintro e w1 ⟨rfl, hb1⟩
      have hbel1 : Below w.heap.size w w1 := hbel.trans (hb1.mono hbel.size)
      clear d0 d1 d2 dx hb1
      go_wp2
      · have ht : (ps[k] == x) = true := by assumption
        go_ret
        exact ⟨_, rfl, .inr ⟨k, rfl, hlt, by simpa [hlt] using ht, hno⟩, hbel1⟩
      · have ht : (ps[k] == x) = false := by assumption
        go_roundw
        case rel =>
          refine ⟨k + 1, by omega, by go_num, fun j hj => ?_, hbel1⟩
          by_cases e : j = k
          · subst e; simpa [hlt] using ht
          · exact hno j (by omega)
        case measure => simp [intOf]; omega
    · go_wp2
      go_ret
      exact ⟨_, rfl, .inl ⟨rfl, fun i hi => hno i (by omega)⟩, hbel⟩

/-- feedIndex: the origin's feeds lie at its 24th cell. -/
theorem feedIndex_any (bo : Nat) (a : Option Addr) (c : Nat) (ps os : List Int) (x : Int) (w : World) (hn : ps.length ≤ 1024) (ho : bo < w.heap.size) (hco : w.cell? ⟨bo, 24, none⟩ = some (.slice a ps.length c)) (h : Feeds w w.heap.size a ps os) :
    Calls Try.prog 14 #[.pointer (some ⟨bo, 0, none⟩), .int .i64 x] w fun e w' => ∃ r, e = .returned (.int .i64 r) ∧ Plain.IsFirst ps x r ∧ Below w.heap.size w w' := by
  go_enter Try.func14, Try.ntmps14
  go_wp2_with fail
  refine (index_feeds a c ps os x w.heap.size _ hn (h.later ((Below.refl _ _).alloc (Nat.le_refl _) _) (by simp)) (by simp) (by simp)).mono ?_
  rintro e w1 ⟨r, rfl, hr, hb1⟩
  have hbel1 : Below w.heap.size w w1 := ((Below.refl _ _).alloc (Nat.le_refl _) _).trans (hb1.mono (by simp))
  clear hb1
  go_wp2
  go_ret
  exact ⟨r, rfl, hr, hbel1⟩
end Go.Proofs.Qxb6612563a
