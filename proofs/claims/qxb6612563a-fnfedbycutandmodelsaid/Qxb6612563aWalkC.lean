import Derived.Test.Qxb6612563aWalkB
import Derived.OwnWalk
import Derived.BigRegion
import Derived.Deep.Light
import Derived.Laws.OwnMore
namespace Go.Proofs.Qxb6612563a
open Go.ChangeShapes Go.WideShapes Go.ChangeAt Go.RowKit
set_option linter.unusedVariables false

theorem Try.info27 : (Try.prog.info? 27).map (fun i => (i.zero, i.size, i.bytes)) = some (some (.int .i64 0), 1, 8) := by kernel_rfl
theorem Try.info47 : (Try.prog.info? 47).map (fun i => (i.zero, i.size, i.bytes)) = some (some (.agg #[.int .i64 0, .int .i64 0, .int .i64 0]), 3, 24) := by kernel_rfl
theorem Try.info49 : (Try.prog.info? 49).map (fun i => (i.zero, i.size, i.bytes)) = some (some (.pointer none), 1, 8) := by kernel_rfl

set_option maxHeartbeats 400000 in
theorem peerIDs_any (a : Option Addr) (c : Nat) (zs : List Int) (w : World) (hn : zs.length ≤ 1024) (h : Ints w w.heap.size a zs) :
    Calls Try.prog 6 #[.slice a zs.length c] w fun e w' => e = .returned (.slice (some ⟨w.heap.size, 0, none⟩) zs.length zs.length) ∧ Below w.heap.size w w' ∧ w.heap.size < w'.heap.size ∧
      ∀ i, i < zs.length → w'.cell? ⟨w.heap.size, i, none⟩ = some (.int .i64 (zs.getD i 0)) := by
  obtain ⟨i0, hi, hz0, hz1, hz2⟩ := info_parts Try.info27
  go_enter Try.func6, Try.ntmps6
  go_wp2_with (at_make; refine wpList_make_full _ rfl (.tmp 6) (.tmp 6) 25 rfl w.heap.size 27 i0 (.int .i64 0) 1 Try.underlying25 hi hz0 hz1 .i64 .i64 _ _ zs.length rfl rfl rfl rfl (by rw [hz2]; omega) (by unfold maxLen; omega) (Nat.le_refl _) ?_; intro w1 hown hgr)
  have hb1 : Below w.heap.size w w1 := (Below.refl _ _).grown hgr (Nat.le_refl _) (fun k hk => by simp at hk)
  clear hgr hi hz0 hz1 hz2
  go_loopw [4] (fun i wr => ∃ (k : Nat) (xs : List Value), k ≤ zs.length ∧ i = .int .i64 k ∧ wr.ownsRow w.heap.size 27 1 (.slice (some ⟨w.heap.size, 0, none⟩) zs.length zs.length) zs.length xs ∧ (∀ j, j < k → xs[j]? = some (.int .i64 (zs.getD j 0))) ∧ Below w.heap.size w wr) (fun i _ => zs.length - (intOf i).toNat)
  case atStart => exact ⟨0, _, Nat.zero_le _, rfl, hown, fun j hj => absurd hj (Nat.not_lt_zero _), hb1⟩
  case round =>
    obtain ⟨k, xs, hk, rfl, hown, hcs, hbel⟩ := hrel
    have hlen : xs.length = zs.length := by simpa using hown.1
    by_cases hlt : k < zs.length
    · obtain ⟨b, off, rfl, hb, hc⟩ := h (by omega)
      have hck := (hbel.cell (p := ⟨b, off + k, none⟩) hb).trans (hc k hlt)
      have hold : wr.cell? ⟨w.heap.size, k, none⟩ = some (xs[k]) := by rw [hown.cellAt k (by omega)]; simp [hlen, hlt]
      have hfr : wr.frozen? ⟨w.heap.size, k, none⟩ = false := hown.frozenAt k
      have hst := hown.stored k (.int .i64 (zs.getD k 0))
      have HS : Hid ((wr.setCell ⟨w.heap.size, k, none⟩ (.int .i64 (zs.getD k 0))).ownsRow w.heap.size 27 1 (.slice (some ⟨w.heap.size, 0, none⟩) zs.length zs.length) zs.length (xs.set k (.int .i64 (zs.getD k 0)))) := hst.1
      have HB : Hid (Below w.heap.size w (wr.setCell ⟨w.heap.size, k, none⟩ (.int .i64 (zs.getD k 0)))) := hbel.setCell (Nat.le_refl _) _
      clear hst hown hbel hc h
      have e : zs.getD k 0 = zs[k] := by simp [hlt]
      rw [e] at HS HB
      have HE : Hid (zs.getD k 0 = zs[k]) := e
      clear e
      go_wp2
      go_roundw
      case rel =>
        refine ⟨k + 1, _, by omega, by go_num, HS.out, fun j hj => ?_, HB.out⟩
        by_cases e : j = k
        · subst e
          rw [HE.out, List.getElem?_set_self (by omega)]
        · rw [List.getElem?_set_ne (by omega)]
          exact hcs j (by omega)
      case measure => simp [intOf]; omega
    · have hcell : ∀ i, i < zs.length → wr.cell? ⟨w.heap.size, i, none⟩ = some (.int .i64 (zs.getD i 0)) := fun i hi => by rw [hown.cellAt i (by omega)]; exact hcs i (by omega)
      have hsz : w.heap.size < wr.heap.size := (hown.lt w.heap.size rfl).2
      have HC : Hid (∀ i, i < zs.length → wr.cell? ⟨w.heap.size, i, none⟩ = some (.int .i64 (zs.getD i 0))) := hcell
      clear hcell hown
      go_wp2
      go_ret
      exact ⟨rfl, hbel, hsz, HC.out⟩

/-- ZZfedBy's first loop, behind k rounds: block g (the first new one) holds k feeds; the origin lies at block bo. -/
def FRow (w wr : World) (bo : Nat) (last : Int) (ps os : List Int) (k : Nat) : Prop :=
  ∃ xs : List Value, wr.ownsRow w.heap.size 47 3 (.slice (some ⟨w.heap.size, 0, none⟩) ps.length ps.length) ps.length xs ∧
    (∀ j, j < k → xs[j * 3]? = some (.int .i64 (ps.getD j 0)) ∧ xs[j * 3 + 1]? = some (.int .i64 0) ∧ xs[j * 3 + 2]? = some (.int .i64 (os.getD j 0))) ∧
    wr.cell? ⟨bo, 17, none⟩ = some (.int .i64 last) ∧ wr.cell? ⟨bo, 24, none⟩ = some (.slice (some ⟨w.heap.size, 0, none⟩) ps.length ps.length) ∧ bo < wr.heap.size ∧ Below w.heap.size w wr

theorem FRow.step {w wr : World} {bo : Nat} {last : Int} {ps os : List Int} {k : Nat} (h : FRow w wr bo last ps os k) (hlt : k < ps.length) (hbo : w.heap.size < bo) (p o : Int) (hp : ps.getD k 0 = p) (ho : os.getD k 0 = o) :
    FRow w (((wr.setCell ⟨w.heap.size, k * 3, none⟩ (.int .i64 p)).setCell ⟨w.heap.size, k * 3 + 1, none⟩ (.int .i64 0)).setCell ⟨w.heap.size, k * 3 + 2, none⟩ (.int .i64 o)).drew bo last ps os (k + 1) := by
  obtain ⟨xs, hown, hcs, h17, h24, hb, hbel⟩ := h
  have hlen : xs.length = ps.length * 3 := hown.1
  have s1 := (hown.stored (k * 3) (.int .i64 p)).1
  have s2 := (s1.stored (k * 3 + 1) (.int .i64 0)).1
  have s3 := (s2.stored (k * 3 + 2) (.int .i64 o)).1
  have hne : ∀ (i j : Nat), (⟨w.heap.size, i, none⟩ : Addr) ≠ ⟨bo, j, none⟩ := fun i j e => by have := congrArg Addr.block e; simp only at this; omega
  refine ⟨_, s3.drew, fun j hj => ?_, ?_, ?_, by simpa using hb, (((hbel.setCell (Nat.le_refl _) _).setCell (Nat.le_refl _) _).setCell (Nat.le_refl _) _).drew⟩
  · by_cases e : j = k
    · subst e
      refine ⟨?_, ?_, ?_⟩
      · rw [List.getElem?_set_ne (by omega), List.getElem?_set_ne (by omega), List.getElem?_set_self (by omega), hp]
      · rw [List.getElem?_set_ne (by omega), List.getElem?_set_self (by simp; omega)]
      · rw [List.getElem?_set_self (by simp; omega), ho]
    · have := hcs j (by omega)
      refine ⟨?_, ?_, ?_⟩
      · rw [List.getElem?_set_ne (by omega), List.getElem?_set_ne (by omega), List.getElem?_set_ne (by omega)]; exact this.1
      · rw [List.getElem?_set_ne (by omega), List.getElem?_set_ne (by omega), List.getElem?_set_ne (by omega)]; exact this.2.1
      · rw [List.getElem?_set_ne (by omega), List.getElem?_set_ne (by omega), List.getElem?_set_ne (by omega)]; exact this.2.2
  · rw [World.cell?_drew, World.cell?_setCell_other (h := hne _ _), World.cell?_setCell_other (h := hne _ _), World.cell?_setCell_other (h := hne _ _)]; exact h17
  · rw [World.cell?_drew, World.cell?_setCell_other (h := hne _ _), World.cell?_setCell_other (h := hne _ _), World.cell?_setCell_other (h := hne _ _)]; exact h24

theorem FRow.feeds {w wr : World} {bo : Nat} {last : Int} {ps os : List Int} (h : FRow w wr bo last ps os ps.length) (ho : os.length = ps.length) : Feeds wr wr.heap.size (some ⟨w.heap.size, 0, none⟩) ps os := by
  obtain ⟨xs, hown, hcs, h17, h24, hb, hbel⟩ := h
  refine ⟨ho, fun _ => ⟨w.heap.size, 0, rfl, (hown.lt w.heap.size rfl).2, fun i hi => ?_⟩⟩
  have := hcs i hi
  refine ⟨?_, ?_, ?_⟩
  · rw [Nat.zero_add, hown.cellAt _ (by omega)]; exact this.1
  · rw [Nat.zero_add, hown.cellAt _ (by omega)]; exact this.2.1
  · rw [Nat.zero_add, hown.cellAt _ (by omega)]; exact this.2.2

/-- ZZfedBy's second loop, behind k rounds: the new row holds pointers to k new peers. -/
def PRow (w wr : World) (ids feds : List Int) (k : Nat) : Prop :=
  ∃ xs : List Value, wr.ownsRow w.heap.size 49 1 (.slice (some ⟨w.heap.size, 0, none⟩) ids.length ids.length) ids.length xs ∧
    (∀ j, j < k → ∃ bp, xs[j]? = some (.pointer (some ⟨bp, 0, none⟩)) ∧ w.heap.size < bp ∧ bp < wr.heap.size ∧ wr.cell? ⟨bp, 0, none⟩ = some (.int .i64 (ids.getD j 0)) ∧ wr.cell? ⟨bp, 7, none⟩ = some (.int .i64 (feds.getD j 0))) ∧
    Below w.heap.size w wr

theorem PRow.step {w wr : World} {ids feds : List Int} {k : Nat} (h : PRow w wr ids feds k) (hlt : k < ids.length) (cs : Array Value) (h0 : cs[0]? = some (.int .i64 (ids.getD k 0))) (h7 : cs[7]? = some (.int .i64 (feds.getD k 0))) :
    PRow w ((wr.setCell ⟨w.heap.size, k, none⟩ (.pointer (some ⟨wr.heap.size, 0, none⟩))).alloc (.cells cs 56)).drew ids feds (k + 1) := by
  obtain ⟨xs, hown, hcs, hbel⟩ := h
  have hlen : xs.length = ids.length := by simpa using hown.1
  have hsz : w.heap.size < wr.heap.size := (hown.lt w.heap.size rfl).2
  have s1 := (hown.stored k (.pointer (some ⟨wr.heap.size, 0, none⟩))).1
  refine ⟨_, (s1.alloc _).drew, fun j hj => ?_, ((hbel.setCell (Nat.le_refl _) _).alloc (by simp; omega) _).drew⟩
  by_cases e : j = k
  · subst e
    refine ⟨wr.heap.size, by rw [List.getElem?_set_self (by omega)], hsz, by simp, ?_, ?_⟩
    · rw [World.cell?_drew, World.cell?_alloc_at (hn := by simp)]; exact h0
    · rw [World.cell?_drew, World.cell?_alloc_at (hn := by simp)]; exact h7
  · obtain ⟨bp, c0, c1, c2, c3, c4⟩ := hcs j (by omega)
    have hne : ∀ i, (⟨w.heap.size, k, none⟩ : Addr) ≠ ⟨bp, i, none⟩ := fun i e => by have := congrArg Addr.block e; simp only at this; omega
    refine ⟨bp, by rw [List.getElem?_set_ne (by omega)]; exact c0, c1, by simp; omega, ?_, ?_⟩
    · rw [World.cell?_drew, World.cell?_alloc_past (hn := by simp; omega), World.cell?_setCell_other (h := hne _)]; exact c3
    · rw [World.cell?_drew, World.cell?_alloc_past (hn := by simp; omega), World.cell?_setCell_other (h := hne _)]; exact c4

theorem PRow.peers {w wr : World} {ids feds : List Int} (h : PRow w wr ids feds ids.length) : Peers wr wr.heap.size (some ⟨w.heap.size, 0, none⟩) ids feds := by
  obtain ⟨xs, hown, hcs, hbel⟩ := h
  refine fun _ => ⟨w.heap.size, 0, rfl, (hown.lt w.heap.size rfl).2, fun i hi => ?_⟩
  obtain ⟨bp, c0, c1, c2, c3, c4⟩ := hcs i hi
  exact ⟨bp, c2, by rw [Nat.zero_add, hown.cellAt _ (by omega)]; exact c0, c3, c4⟩

end Go.Proofs.Qxb6612563a
