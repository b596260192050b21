import Derived.Test.Qxb6612563aWalkA
import Derived.Deep.QuietTactic
import Derived.BigQuiet
import Derived.Deep.RegionWith
import Derived.RegionTactic
import Derived.Deep.Cut
import Derived.Deep.CutRange
import Derived.WalkSmall
namespace Go.Proofs.Qxb6612563a
open Go.ChangeShapes Go.WideShapes Go.ChangeAt Go.RowKit
set_option linter.unusedVariables false

set_option maxHeartbeats 800000 in
theorem quiet_any (bp bx bo : Nat) (a : Option Addr) (c : Nat) (ps os : List Int) (last id fed : Int) (w : World) (hn : ps.length ≤ 1024)
    (hp : bp < w.heap.size) (hx : bx < w.heap.size) (ho : bo < w.heap.size)
    (cx : w.cell? ⟨bx, 0, none⟩ = some (.pointer (some ⟨bo, 0, none⟩)))
    (cp0 : w.cell? ⟨bp, 0, none⟩ = some (.int .i64 id)) (cp7 : w.cell? ⟨bp, 7, none⟩ = some (.int .i64 fed))
    (co17 : w.cell? ⟨bo, 17, none⟩ = some (.int .i64 last)) (co24 : w.cell? ⟨bo, 24, none⟩ = some (.slice a ps.length c)) (h : Feeds w w.heap.size a ps os) :
    Calls Try.prog 13 #[.pointer (some ⟨bp, 0, none⟩), .pointer (some ⟨bx, 0, none⟩)] w fun e w' => ∃ r, e = .returned (.bool r) ∧ (r = true ↔ Plain.QuietP last ps os id fed) ∧ Below w.heap.size w w' := by
  go_enter Try.func13, Try.ntmps13
  go_upto_region 1 with fail
  go_cut [4] from 5 to 38 (fun i w1 => ∃ r, i = .int .i64 r ∧ Plain.IsFirst ps id r ∧ Below w.heap.size w w1)
  case first =>
    go_region_with (go_at_call 14; refine (feedIndex_any bo a c ps os id _ hn (by simpa using ho) (by simpa using co24) (by exact h.later (Below.drew (Below.refl _ _)) (by simp))).mono ?_; rintro e w1 ⟨r, rfl, hr, hb1⟩)
    all_goals
      have hb2 : Below w.heap.size w w1 := (Below.drew (Below.refl _ _)).trans (hb1.mono (by simp))
      go_wp2_with fail
      go_meet
      exact ⟨r, rfl, hr, hb2⟩
  case rest =>
    obtain ⟨r, rfl, hr, hb2⟩ := hcut
    have dx := (hb2.cell (p := ⟨bx, 0, none⟩) hx).trans cx
    have dp0 := (hb2.cell (p := ⟨bp, 0, none⟩) hp).trans cp0
    have dp7 := (hb2.cell (p := ⟨bp, 7, none⟩) hp).trans cp7
    have do17 := (hb2.cell (p := ⟨bo, 17, none⟩) ho).trans co17
    have do24 := (hb2.cell (p := ⟨bo, 24, none⟩) ho).trans co24
    have hr0 := Plain.quietB_iff last ps os id fed r hr
    rcases hr with ⟨rfl, hno⟩ | ⟨i, rfl, hi, he, hno⟩
    · clear cx cp0 cp7 co17 co24 h hno
      go_wp2
      go_quiet (fail)
      go_wp2
      go_ret
      refine ⟨_, ?_, hr0, below_drewN hb2 _⟩
      simp [Plain.quietB]
    · obtain ⟨b, off, rfl, hb, hc⟩ := h.2 (by omega)
      have hos := (hb2.cell (p := ⟨b, off + i * 3 + 2, none⟩) hb).trans (hc i hi).2.2
      have hd : (0 : Int) ≤ (i : Int) := by omega
      have hdl : (i : Int) < (ps.length : Int) := by omega
      clear cx cp0 cp7 co17 co24 h hno hc
      by_cases hl : last = id
      · have hlB : (last == id) = true := by simp [hl]
        have HL : Hid (last = id) := hl
        clear hl
        go_wp2
        go_quiet (fail)
        go_wp2
        go_ret
        refine ⟨_, ?_, hr0, below_drewN hb2 _⟩
        simp [Plain.quietB, hlB]
      · have hlB : (last == id) = false := by simp [hl]
        clear hl
        go_wp2
        go_quiet (fail)
        go_wp2
        go_ret
        refine ⟨_, ?_, hr0, below_drewN hb2 _⟩
        simp [Plain.quietB, hlB]

/-- A slice of pointers to peers: each peer's id lies at its cell 0, its lastFed at its cell 7. -/
def Peers (w : World) (B : Nat) (a : Option Addr) (ids feds : List Int) : Prop :=
  0 < ids.length → ∃ b off, a = some ⟨b, off, none⟩ ∧ b < B ∧ ∀ i, i < ids.length → ∃ bp, bp < B ∧ w.cell? ⟨b, off + i, none⟩ = some (.pointer (some ⟨bp, 0, none⟩)) ∧ w.cell? ⟨bp, 0, none⟩ = some (.int .i64 (ids.getD i 0)) ∧ w.cell? ⟨bp, 7, none⟩ = some (.int .i64 (feds.getD i 0))

theorem Peers.later {w w' : World} {B B' : Nat} {a : Option Addr} {ids feds : List Int} (h : Peers w B a ids feds) (hb : Below B w w') (hB : B ≤ B') : Peers w' B' a ids feds := fun h0 => by
  obtain ⟨b, off, e, hlt, hc⟩ := h h0
  refine ⟨b, off, e, by omega, fun i hi => ?_⟩
  obtain ⟨bp, hbp, c0, c1, c2⟩ := hc i hi
  exact ⟨bp, by omega, (hb.cell (p := ⟨b, off + i, none⟩) hlt).trans c0, (hb.cell (p := ⟨bp, 0, none⟩) hbp).trans c1, (hb.cell (p := ⟨bp, 7, none⟩) hbp).trans c2⟩

set_option maxHeartbeats 400000 in
theorem index_peers (a2 : Option Addr) (c2 : Nat) (ids feds : List Int) (bx bo : Nat) (a : Option Addr) (c : Nat) (ps os : List Int) (last : Int) (w : World) (hn : ps.length ≤ 1024) (hn2 : ids.length ≤ 1024)
    (hx : bx < w.heap.size) (ho : bo < w.heap.size)
    (cx : w.cell? ⟨bx, 0, none⟩ = some (.pointer (some ⟨bo, 0, none⟩)))
    (co17 : w.cell? ⟨bo, 17, none⟩ = some (.int .i64 last)) (co24 : w.cell? ⟨bo, 24, none⟩ = some (.slice a ps.length c)) (h : Feeds w w.heap.size a ps os) (hq : Peers w w.heap.size a2 ids feds) :
    Calls Try.prog 15 #[.slice a2 ids.length c2, .func (.func 13) #[] #[.pointer (some ⟨bx, 0, none⟩)]] w fun e w' => ∃ r, e = .returned (.int .i64 r) ∧ (0 ≤ r ↔ Plain.FedP last ps os ids feds) ∧ Below w.heap.size w w' := by
  go_enter Try.func15, Try.ntmps15
  go_wp2
  go_loopw [5, 8] (fun _ i wr => ∃ k : Nat, k ≤ ids.length ∧ i = .int .i64 k ∧ (∀ j, j < k → ¬ Plain.QuietP last ps os (ids.getD j 0) (feds.getD j 0)) ∧ Below w.heap.size w wr) (fun _ i _ => ids.length - (intOf i).toNat)
  case atStart => exact ⟨0, Nat.zero_le _, rfl, fun j hj => absurd hj (Nat.not_lt_zero _), Below.refl _ _⟩
  case round =>
    obtain ⟨k, hk, rfl, hno, hbel⟩ := hrel
    by_cases hlt : k < ids.length
    · obtain ⟨b, off, rfl, hb, hc⟩ := hq (by omega)
      obtain ⟨bp, hbp, c0, c1, c2⟩ := hc k hlt
      have d0 := (hbel.cell (p := ⟨b, off + k, none⟩) hb).trans c0
      have d1 := (hbel.cell (p := ⟨bp, 0, none⟩) hbp).trans c1
      have d2 := (hbel.cell (p := ⟨bp, 7, none⟩) hbp).trans c2
      have dx := (hbel.cell (p := ⟨bx, 0, none⟩) hx).trans cx
      have d17 := (hbel.cell (p := ⟨bo, 17, none⟩) ho).trans co17
      have d24 := (hbel.cell (p := ⟨bo, 24, none⟩) ho).trans co24
      have hfe := h.later hbel hbel.size
      have hsz := hbel.size
      clear hc h c0 c1 c2 hq cx co17 co24
      go_wp2_with fail
      refine (quiet_any bp bx bo a c ps os last _ _ _ hn (by omega) (by omega) (by omega) dx d1 d2 d17 d24 hfe).mono ?_
      rintro e w1 ⟨r, rfl, hr, hb1⟩
      have hbel1 : Below w.heap.size w w1 := hbel.trans (hb1.mono hbel.size)
      clear d0 d1 d2 dx hb1 d17 d24 hfe
      cases r
      · have HR : Hid (¬ Plain.QuietP last ps os (ids.getD k 0) (feds.getD k 0)) := fun hh => by have := hr.2 hh; simp at this
        clear hr
        go_wp2
        go_roundw
        case rel =>
          refine ⟨k + 1, by omega, by go_num, fun j hj => ?_, hbel1⟩
          by_cases e : j = k
          · subst e; exact HR.out
          · exact hno j (by omega)
        case measure => simp [intOf]; omega
      · have HR : Hid (Plain.QuietP last ps os (ids.getD k 0) (feds.getD k 0)) := hr.1 rfl
        clear hr
        go_wp2
        go_ret
        exact ⟨_, rfl, ⟨fun _ => ⟨k, hlt, HR.out⟩, fun _ => by omega⟩, hbel1⟩
    · go_wp2
      go_ret
      exact ⟨_, rfl, ⟨fun hh => by omega, fun ⟨j, hj, hh⟩ => absurd hh (hno j (by omega))⟩, hbel⟩

/-- fedBy, whole. -/
theorem fedBy_any (a2 : Option Addr) (c2 : Nat) (ids feds : List Int) (bo : Nat) (a : Option Addr) (c : Nat) (ps os : List Int) (last : Int) (w : World) (hn : ps.length ≤ 1024) (hn2 : ids.length ≤ 1024)
    (ho : bo < w.heap.size)
    (co17 : w.cell? ⟨bo, 17, none⟩ = some (.int .i64 last)) (co24 : w.cell? ⟨bo, 24, none⟩ = some (.slice a ps.length c)) (h : Feeds w w.heap.size a ps os) (hq : Peers w w.heap.size a2 ids feds) :
    Calls Try.prog 11 #[.pointer (some ⟨bo, 0, none⟩), .slice a2 ids.length c2] w fun e w' => ∃ r, e = .returned (.bool r) ∧ (r = true ↔ Plain.FedP last ps os ids feds) ∧ Below w.heap.size w w' := by
  have hb0 : ∀ o, Below w.heap.size w (w.alloc o) := fun o => (Below.refl _ _).alloc (Nat.le_refl _) o
  go_enter Try.func11, Try.ntmps11
  go_wp2_with (first | (go_at_call 12; go_in))
  refine (index_peers a2 c2 ids feds w.heap.size bo a c ps os last _ hn hn2 (by simp) (by simp; omega) (by simp) (by rw [(hb0 _).cell (p := ⟨bo, 17, none⟩) ho]; exact co17) (by rw [(hb0 _).cell (p := ⟨bo, 24, none⟩) ho]; exact co24) (h.later (hb0 _) (by simp)) (hq.later (hb0 _) (by simp))).mono ?_
  rintro e w1 ⟨r, rfl, hr, hb1⟩
  have hb2 : Below w.heap.size w w1 := (hb0 _).trans (hb1.mono (by simp))
  clear hb1 hb0
  have HR : Hid (0 ≤ r ↔ Plain.FedP last ps os ids feds) := hr
  clear hr
  go_wp2
  go_ret
  exact ⟨_, rfl, by simpa using HR.out, hb2⟩
end Go.Proofs.Qxb6612563a
