import Derived.Test.Qxb6609279aFill
import Derived.Test.Qxb6609279aPlain
namespace Go.Proofs.Qxb6609279a
open Go.ChangeShapes Go.WideShapes Go.ChangeAt Go.RowKit Go.Maps
set_option linter.unusedVariables false

/-- What lasting hands out for the answer r. -/
def Got (w : World) (v : Value) (b : Bool) : Option ByteArray → Prop
  | none => v = .slice none 0 0 ∧ b = false
  | some us => b = true ∧ ∃ ba, v = .slice (some ⟨ba, 0, none⟩) 1 1 ∧ ba < w.heap.size ∧ w.heap[ba]? = some (authBlock us)

def LastPost (w : World) (now : Int) (ents : List Ent) (host path account : ByteArray) (e : Ending) (w' : World) : Prop :=
  ∃ v b r, e = .returned (.tuple #[v, .bool b]) ∧ Ans now ents host path account r ∧ Got w' v b r ∧ Below w.heap.size w w'

/-- The lookup of a key, for every world that holds the map as it stands. -/
theorem look_fn {w : World} {bm : Nat} {ents : List Ent} {k : Nat} (h : MapOK w bm ents k) (key : Value) (hk : ∃ l, keyOf Try.prog 74 key = some l) :
    ∃ s0 n0 x1 x2 ok, (∀ W : World, W.heap[bm]? = w.heap[bm]? → (Instr.lookup 44 (.map (some bm)) key true).run Try.prog W = .ok (.tuple #[.agg #[.slice s0 n0 n0, .int .u64 x1, .int .i64 x2, .pointer none], .bool ok]) W) ∧
      ((ok = false ∧ NoneAt ents k key) ∨ (ok = true ∧ ∃ i e ba, LastAt ents k key i ∧ ents[i]? = some e ∧ s0 = some ⟨ba, 0, none⟩ ∧ n0 = 1 ∧ x1 = nsOf e.ex ∧ x2 = secOf e.ex ∧ ba < w.heap.size ∧ w.heap[ba]? = some (authBlock e.us))) := by
  obtain ⟨es, clock, hb, hr, hn, hv, hc⟩ := h
  obtain ⟨l, hl⟩ := hk
  rcases law74.find w hl es.toList hr with ⟨h1, h2⟩ | ⟨j, e0, h1, h2, h3⟩
  · refine ⟨none, 0, 0, 0, false, fun W hW => ?_, .inl ⟨rfl, fun i e hi he hkey => ?_⟩⟩
    · rcases law74.find W hl es.toList hr with ⟨k1, k2⟩ | ⟨j, e0, k1, k2, k3⟩
      · simp [Instr.lookup, run_underlying Try.underlying44, MapKept.run_getObj_map (hW.trans hb), law74.check W _ hl, k1, Result.andThen]
      · exact absurd k3 (h2 e0 (List.mem_of_getElem? k2))
    · obtain ⟨x, hx, hxe⟩ := hc i e hi he
      exact h2 x hx (hxe.trans hkey)
  · have hm := List.mem_of_getElem? h2
    obtain ⟨i, e, g1, g2, ba, g3, g4, g5, g6⟩ := hv e0 hm
    refine ⟨_, _, _, _, true, fun W hW => ?_, .inr ⟨rfl, i, e, ba, by rw [← h3]; exact g1, g2, rfl, rfl, rfl, rfl, g4, g6⟩⟩
    rw [← g3]
    rcases law74.find W hl es.toList hr with ⟨k1, k2⟩ | ⟨j', e', k1, k2, k3⟩
    · exact absurd h3 (k2 e0 hm)
    · have : e' = e0 := by
        have hp := List.pairwise_iff_getElem.1 hn
        obtain ⟨q1, q2⟩ := List.getElem?_eq_some_iff.1 k2
        obtain ⟨r1, r2⟩ := List.getElem?_eq_some_iff.1 h2
        rcases Nat.lt_trichotomy j j' with hlt | rfl | hlt
        · exact absurd (by rw [q2, r2, k3, h3]) (hp j j' r1 q1 hlt)
        · rw [← q2, ← r2]
        · exact absurd (by rw [q2, r2, k3, h3]) (hp j' j q1 r1 hlt)
      subst this
      simp [Instr.lookup, run_underlying Try.underlying44, MapKept.run_getObj_map (hW.trans hb), law74.check W _ hl, k1, Result.andThen]

/-- The map's block is as it was. -/
def Same (bm : Nat) (w W : World) : Prop := W.heap[bm]? = w.heap[bm]?
theorem same_below {bm : Nat} {w W : World} (hb : Below w.heap.size w W) (h : bm < w.heap.size) : Same bm w W := hb.block bm h
def Four (W : World) (bx : Nat) (a b c d : Value) : Prop :=
  (W.cell? ⟨bx, 0, none⟩ = some a ∧ W.cell? ⟨bx, 1, none⟩ = some b ∧ W.cell? ⟨bx, 2, none⟩ = some c ∧ W.cell? ⟨bx, 3, none⟩ = some d) ∧
  W.frozen? ⟨bx, 0, none⟩ = false ∧ W.frozen? ⟨bx, 1, none⟩ = false ∧ W.frozen? ⟨bx, 2, none⟩ = false ∧ W.frozen? ⟨bx, 3, none⟩ = false
theorem four_new {w w1 : World} {a b c d : Value} {t : TypeId} (hb : Below (w.alloc (.cells #[a, b, c, d] t)).heap.size (w.alloc (.cells #[a, b, c, d] t)) w1) :
    Four w1 w.heap.size a b c d := by
  exact ⟨⟨(hb.cell (by simp)).trans (by go_simp), (hb.cell (by simp)).trans (by go_simp), (hb.cell (by simp)).trans (by go_simp), (hb.cell (by simp)).trans (by go_simp)⟩, (hb.frozen (by simp)).trans (by go_simp), (hb.frozen (by simp)).trans (by go_simp), (hb.frozen (by simp)).trans (by go_simp), (hb.frozen (by simp)).trans (by go_simp)⟩

theorem four_drew {w w1 : World} {a b c d : Value} {t : TypeId} (hb : Below (w.alloc (.cells #[a, b, c, d] t)).drew.heap.size (w.alloc (.cells #[a, b, c, d] t)).drew w1) : Four w1 w.heap.size a b c d :=
  four_new ((Below.drew (Below.refl _ _)).trans hb)

theorem put_alloc (W : World) (a b c d : Value) (t : TypeId) : W.heap.size < (W.alloc (.cells #[a, b, c, d] t)).heap.size ∧ (W.alloc (.cells #[a, b, c, d] t)).cell? ⟨W.heap.size, 0, none⟩ = some a ∧ (W.alloc (.cells #[a, b, c, d] t)).cell? ⟨W.heap.size, 1, none⟩ = some b ∧
    (W.alloc (.cells #[a, b, c, d] t)).cell? ⟨W.heap.size, 2, none⟩ = some c ∧ (W.alloc (.cells #[a, b, c, d] t)).cell? ⟨W.heap.size, 3, none⟩ = some d :=
  ⟨by simp, by go_simp, by go_simp, by go_simp, by go_simp⟩
theorem put_set {W : World} {bx : Nat} {a b c d : Value} (h : Four W bx a b c d) (hlt : bx < W.heap.size) (a' b' c' d' : Value) :
    bx < ((((W.setCell ⟨bx, 0, none⟩ a').setCell ⟨bx, 1, none⟩ b').setCell ⟨bx, 2, none⟩ c').setCell ⟨bx, 3, none⟩ d').heap.size ∧
    ((((W.setCell ⟨bx, 0, none⟩ a').setCell ⟨bx, 1, none⟩ b').setCell ⟨bx, 2, none⟩ c').setCell ⟨bx, 3, none⟩ d').cell? ⟨bx, 0, none⟩ = some a' ∧
    ((((W.setCell ⟨bx, 0, none⟩ a').setCell ⟨bx, 1, none⟩ b').setCell ⟨bx, 2, none⟩ c').setCell ⟨bx, 3, none⟩ d').cell? ⟨bx, 1, none⟩ = some b' ∧
    ((((W.setCell ⟨bx, 0, none⟩ a').setCell ⟨bx, 1, none⟩ b').setCell ⟨bx, 2, none⟩ c').setCell ⟨bx, 3, none⟩ d').cell? ⟨bx, 2, none⟩ = some c' ∧
    ((((W.setCell ⟨bx, 0, none⟩ a').setCell ⟨bx, 1, none⟩ b').setCell ⟨bx, 2, none⟩ c').setCell ⟨bx, 3, none⟩ d').cell? ⟨bx, 3, none⟩ = some d' := by
  obtain ⟨⟨z0, z1, z2, z3⟩, f0, f1, f2, f3⟩ := h
  exact ⟨by simpa using hlt, by go_simp, by go_simp, by go_simp, by go_simp⟩

theorem below_set4 {w W : World} (h : Below w.heap.size w W) (a b c d : Value) : Below w.heap.size w ((((W.setCell ⟨w.heap.size, 0, none⟩ a).setCell ⟨w.heap.size, 1, none⟩ b).setCell ⟨w.heap.size, 2, none⟩ c).setCell ⟨w.heap.size, 3, none⟩ d) :=
  (((h.setCell (p := ⟨w.heap.size, 0, none⟩) (Nat.le_refl _) a).setCell (p := ⟨w.heap.size, 1, none⟩) (Nat.le_refl _) b).setCell (p := ⟨w.heap.size, 2, none⟩) (Nat.le_refl _) c).setCell (p := ⟨w.heap.size, 3, none⟩) (Nat.le_refl _) d

theorem kind_le (k : Nat) : (kindOf k).size ≤ maxLen := by
  unfold kindOf
  split
  · exact of_decide_eq_true (by kernel_rfl)
  · split
    · exact of_decide_eq_true (by kernel_rfl)
    · exact of_decide_eq_true (by kernel_rfl)

set_option maxHeartbeats 6400000 in
theorem lasting_any (bc bn bm : Nat) (now : Int) (ents : List Ent) (host path account : ByteArray) (w : World) (hd0 : -9223372036854775808 ≤ now) (hd1 : now ≤ 9223372036854775807)
    (hwf : ∀ (i : Nat) e, ents[i]? = some e → EntWf e) (s1 : host.size ≤ maxLen) (s2 : path.size ≤ maxLen) (s3 : account.size ≤ maxLen) (hc : CacheOK w bc bn bm now ents ents.length) :
    Calls Try.prog 15 #[.pointer (some ⟨bc, 0, none⟩), .agg #[.string host, .string path], .string account] w fun e w' => LastPost w now ents host path account e w' := by
  have HW := hide hwf
  have HC := hide hc
  have HK := hide (fun k => keyV_reads (kt := kindOf k) (kind_le k) s1 s2 s3)
  obtain ⟨g1, g2, g3, g4, g5, g6, g7, g8⟩ := hc
  clear hwf g8 s1 s2 s3
  go_enter Try.func15, Try.ntmps15
  go_wp2_with fail
  refine (now_any bn now _ (by simp; omega) (by rw [((Below.refl w.heap.size w).alloc (Nat.le_refl _) _).cell (p := ⟨bn, 0, none⟩) g2]; exact g7) hd0 hd1).mono ?_
  rintro r w1 ⟨rfl, hb1⟩
  have hbw1 : Below w.heap.size w w1 := ((Below.refl w.heap.size w).alloc (Nat.le_refl _) _).trans (hb1.mono (by simp))
  have HC1 := hide (HC.out.kept hbw1)
  have q0 : w1.cell? ⟨w.heap.size, 0, none⟩ = some (.string host) := (hb1.cell (by simp)).trans (by go_simp)
  have q1 : w1.cell? ⟨w.heap.size, 1, none⟩ = some (.string path) := (hb1.cell (by simp)).trans (by go_simp)
  have hs1 : w.heap.size < w1.heap.size := by have := hb1.size; simp at this; omega
  clear hb1 g5 g6 g7 g1 g2 HC
  go_wp2_with fail
  obtain ⟨w2, hw2⟩ : ∃ x, x = (w1.alloc (.cells #[.int .u64 (nsOf now), .int .i64 (secOf now), .pointer none] 40)).alloc (.cells #[.string ⟨#[73, 109, 97, 103, 101]⟩, .string ⟨#[82, 101, 103, 105, 115, 116, 114, 121]⟩, .string ⟨#[71, 108, 111, 98, 97, 108]⟩] 9) := ⟨_, rfl⟩
  rw [← hw2]
  have hb2 : Below w1.heap.size w1 w2 := by rw [hw2]; exact ((Below.refl w1.heap.size w1).alloc (Nat.le_refl _) _).alloc (by simp) _
  have HC2 := hide (HC1.out.kept hb2)
  have t0 : w2.cell? ⟨w1.heap.size, 0, none⟩ = some (.int .u64 (nsOf now)) := by rw [hw2]; go_simp
  have t1 : w2.cell? ⟨w1.heap.size, 1, none⟩ = some (.int .i64 (secOf now)) := by rw [hw2]; go_simp
  have t2 : w2.cell? ⟨w1.heap.size, 2, none⟩ = some (.pointer none) := by rw [hw2]; go_simp
  have hs2 : w1.heap.size + 1 < w2.heap.size := by rw [hw2]; simp
  have hkinds : ∀ k : Nat, k < 3 → w2.cell? ⟨w1.heap.size + 1, k, none⟩ = some (.string (kindOf k)) := by
    intro k hk
    rw [hw2]
    match k, hk with
    | 0, _ => go_simp; rfl
    | 1, _ => go_simp; rfl
    | 2, _ => go_simp; rfl
  have q0' := (hb2.cell (p := ⟨w.heap.size, 0, none⟩) hs1).trans q0
  have q1' := (hb2.cell (p := ⟨w.heap.size, 1, none⟩) hs1).trans q1
  have hbw2 := hide (hbw1.trans (hb2.mono hbw1.size))
  have F := hide (And.intro q0' (And.intro q1' (And.intro t0 (And.intro t1 (And.intro t2 hkinds)))))
  clear hw2 hb2 HC1 q0 q1 q0' q1' t0 t1 t2 hkinds hbw1
  go_loopw [10, 11, 12, 20] (fun _ _ _ i wr => ∃ k : Nat, k ≤ 3 ∧ i = .int .i64 k ∧ Hid (Below w2.heap.size w2 wr) ∧ Hid (∀ j, j < k → Pick now ents (keyV (kindOf j) host path account) none)) (fun _ _ _ i _ => 3 - (intOf i).toNat)
  case atStart => exact ⟨0, by omega, rfl, hide (Below.refl _ _), hide (fun j hj => by omega)⟩
  case round =>
    obtain ⟨k, hk, rfl, hbr, hno⟩ := hrel
    by_cases hlt : k < 3
    · have HCr := hide (HC2.out.kept hbr.out)
      obtain ⟨r1, r2, r3, r4, r5, r6, r7, r8⟩ := HCr.out
      obtain ⟨s0, n0, x1, x2, ok, hlook, hres⟩ := look_fn r8 (keyV (kindOf k) host path account) (HK.out k)
      have HR := hide hres
      have p0 := (hbr.out.cell (p := ⟨w.heap.size, 0, none⟩) (by simp; omega)).trans F.out.1
      have p1 := (hbr.out.cell (p := ⟨w.heap.size, 1, none⟩) (by simp; omega)).trans F.out.2.1
      have pk := (hbr.out.cell (p := ⟨w1.heap.size + 1, k, none⟩) hs2).trans (F.out.2.2.2.2.2 k hlt)
      have hbm : bm < wr.heap.size := r8.lt
      have hsr : w.heap.size < wr.heap.size := by have := hbr.out.size; omega
      clear hres r5 r7 r8 r3 r4
      go_upto_region 5 with fail
      go_cut [11, 12] from 21 to 45 (fun s11 s12 wx => ∃ bx, s11 = .pointer (some ⟨bx, 0, none⟩) ∧ s12 = .bool ok ∧ Hid (wr.heap.size ≤ bx ∧ bx < wx.heap.size ∧ wx.cell? ⟨bx, 0, none⟩ = some (.slice s0 n0 n0) ∧ wx.cell? ⟨bx, 1, none⟩ = some (.int .u64 x1) ∧ wx.cell? ⟨bx, 2, none⟩ = some (.int .i64 x2) ∧ wx.cell? ⟨bx, 3, none⟩ = some (.pointer none)) ∧ Hid (Below wr.heap.size wr wx))
      case first =>
        have hlk : ∀ W : World, Same bm wr W → (Instr.lookup 44 (.map (some bm)) (keyV (kindOf k) host path account) true).run Try.prog W = .ok (.tuple #[.agg #[.slice s0 n0 n0, .int .u64 x1, .int .i64 x2, .pointer none], .bool ok]) W := fun W h => hlook W h
        clear hlook
        go_region_with (go_at_call 21; refine (cacheKey_any (kindOf k) host path account _).mono ?_; rintro r wx ⟨rfl, hbx⟩; have hbx' : Below wr.heap.size wr wx := (by first | exact (Below.drew (Below.refl _ _)).trans (hbx.mono (by simp)) | exact (((Below.refl _ _).alloc (Nat.le_refl _) _).drew).trans (hbx.mono (by simp))); have cx := (hbx'.cell (p := ⟨bc, 3, none⟩) r1).trans r6; have sx : bc < wx.heap.size := Nat.lt_of_lt_of_le r1 hbx'.size; have M1 := same_below hbx' hbm; have M2 := same_below (hbx'.alloc hbx'.size (.cells #[.slice none 0 0, .int .u64 0, .int .i64 0, .pointer none] 72)) hbm; first | (have zz : Four wx wr.heap.size (.slice none 0 0) (.int .u64 0) (.int .i64 0) (.pointer none) := four_drew hbx; have ZZ := hide zz; have ZS := hide (show wr.heap.size < wx.heap.size from Nat.lt_of_lt_of_le (by simp) hbx.size); obtain ⟨⟨z0, z1, z2, z3⟩, f0, f1, f2, f3⟩ := zz) | skip)
        all_goals
          go_wp2_with fail
          go_meet
          first
            | (refine ⟨wx.heap.size, rfl, rfl, ?_, ?_⟩
               · exact hide ⟨hbx'.size, put_alloc wx (.slice s0 n0 n0) (.int .u64 x1) (.int .i64 x2) (.pointer none) 72⟩
               · exact hide (hbx'.alloc hbx'.size _))
            | (refine ⟨wr.heap.size, rfl, rfl, ?_, ?_⟩
               · exact hide ⟨Nat.le_refl _, put_set ZZ.out ZS.out (.slice s0 n0 n0) (.int .u64 x1) (.int .i64 x2) (.pointer none)⟩
               · exact hide (below_set4 hbx' (.slice s0 n0 n0) (.int .u64 x1) (.int .i64 x2) (.pointer none)))
      case rest =>
        obtain ⟨bx, rfl, rfl, hx, hbx⟩ := hcut
        rename World => wx
        obtain ⟨x0, x1', x2', x3, x4, x5⟩ := hx.out
        have y0 := ((hbr.out.trans (hbx.out.mono hbr.out.size)).cell (p := ⟨w1.heap.size, 0, none⟩) (by simp; omega)).trans F.out.2.2.1
        have y1 := ((hbr.out.trans (hbx.out.mono hbr.out.size)).cell (p := ⟨w1.heap.size, 1, none⟩) (by simp; omega)).trans F.out.2.2.2.1
        have y2 := ((hbr.out.trans (hbx.out.mono hbr.out.size)).cell (p := ⟨w1.heap.size, 2, none⟩) (by simp; omega)).trans F.out.2.2.2.2.1
        clear hlook p0 p1 pk r6
        have hbxx := hide (hbr.out.trans (hbx.out.mono hbr.out.size))
        rcases HR.out with ⟨rfl, hnone⟩ | ⟨rfl, i, e, ba, hl, he, rfl, rfl, rfl, rfl, hba, hblk⟩
        · have HN := hide hnone
          clear hnone HR
          go_wp2_with fail
          refine ⟨⟨k + 1, by omega, by go_num, hbxx, hide (fun j hj => ?_)⟩, by simp [intOf]; omega⟩
          by_cases hjk : j = k
          · subst hjk
            exact .inl ⟨HN.out, rfl⟩
          · exact hno.out j (by omega)
        · have HL := hide (And.intro hl (And.intro he (And.intro hba hblk)))
          have we := hide (HW.out i e he)
          clear hl he hba hblk HR
          go_wp2_with fail
          refine (before_any now e.ex wx).mono ?_
          rintro r w3 ⟨rfl, hb3⟩
          have x2 := (hb3.cell (p := ⟨bx, 0, none⟩) x1').trans x2'
          have hbr3 := hide (hbxx.out.trans (hb3.mono hbxx.out.size))
          have hbk := hide ((hbx.out.trans (hb3.mono hbx.out.size)))
          clear x0 x1' x2' x3 x4 x5 y0 y1 y2 hx hbx hb3
          by_cases hnow : now < e.ex
          · have hdn : decide (now < e.ex) = true := decide_eq_true hnow
            rw [hdn]
            have HT := hide hnow
            clear hnow hdn
            go_wp2
            go_ret2
            refine ⟨_, _, some e.us, rfl, .inl ⟨k, hlt, hno.out, .inr ⟨i, e, HL.out.1, HL.out.2.1, (if_pos HT.out).symm⟩, by simp⟩, ⟨rfl, ba, rfl, Nat.lt_of_lt_of_le HL.out.2.2.1 hbk.out.size, (hbk.out.block ba HL.out.2.2.1).trans HL.out.2.2.2⟩, hbw2.out.trans (hbr3.out.mono hbw2.out.size)⟩
          · have hdn : decide (now < e.ex) = false := decide_eq_false hnow
            rw [hdn]
            have HT := hide hnow
            clear hnow hdn
            go_wp2
            refine ⟨⟨k + 1, by omega, by go_num, hbr3, hide (fun j hj => ?_)⟩, by simp [intOf]; omega⟩
            by_cases hjk : j = k
            · subst hjk
              exact .inr ⟨i, e, HL.out.1, HL.out.2.1, (if_neg (Int.not_lt.2 HT.out)).symm⟩
            · exact hno.out j (by omega)
    · go_wp2
      go_ret2
      exact ⟨_, _, none, rfl, .inr ⟨rfl, fun j hj => hno.out j (by omega)⟩, ⟨rfl, rfl⟩, hbw2.out.trans (hbr.out.mono hbw2.out.size)⟩
end Go.Proofs.Qxb6609279a
