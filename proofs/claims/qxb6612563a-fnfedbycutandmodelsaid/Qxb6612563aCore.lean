import Derived.Test.Qxb6612563aWalkE
import Derived.Laws.CopyOwn
import Derived.WalkSpells
namespace Go.Proofs.Qxb6612563a
open Go.ChangeShapes Go.WideShapes Go.ChangeAt Go.RowKit
set_option linter.unusedVariables false

theorem Try.info2 : (Try.prog.info? 2).map (fun i => (i.zero, i.size, i.bytes)) = some (some (.int .i64 0), 1, 8) := by kernel_rfl
theorem Try.size2 : (Try.prog.info? 2).map (·.size) = some 1 := by kernel_rfl

/-- Behind 'if s != nil { a copy first }': the slice is nil and empty, or it begins a block of the call's own. -/
def Copied (w : World) (a : Option Addr) (n c : Nat) (zs : List Int) : Prop :=
  Ints w w.heap.size a zs ∧ ((a = none ∧ n = 0 ∧ c = 0) ∨ ∃ g, a = some ⟨g, 0, none⟩ ∧ c = n)

theorem Copied.later {w w' : World} {a : Option Addr} {n c : Nat} {zs : List Int} (h : Copied w a n c zs) (hb : Below w.heap.size w w') : Copied w' a n c zs := ⟨h.1.later hb hb.size, h.2⟩

theorem copied_new {w' : World} {g : Nat} {zs : List Int} {t : TypeId} (hlt : g < w'.heap.size) (h : w'.heap[g]? = some (.cells (zs.map (Value.int .i64)).toArray t (0, 0))) : Copied w' (some ⟨g, 0, none⟩) zs.length zs.length zs := by
  refine ⟨fun h0 => ⟨g, 0, rfl, hlt, fun i hi => ?_⟩, .inr ⟨g, rfl, rfl⟩⟩
  simp [World.cell?, h, hi]

theorem own_block {w : World} {base e g n : Nat} {xs : List Value} (h : w.ownsRow base e 1 (.slice (some ⟨g, 0, none⟩) n n) n xs) : ∃ cur : List Value, w.heap[g]? = some (.cells cur.toArray e (0, 0)) ∧ cur.length = n := by
  rcases h.2 with ⟨h', _⟩ | ⟨g', cap', cur, h', _, hg, _, _, hcs, _⟩
  · simp at h'
  · simp only [Value.slice.injEq, Option.some.injEq, Addr.mk.injEq, and_true, true_and] at h'
    obtain ⟨rfl, rfl⟩ := h'
    exact ⟨cur.toList, by simpa using hg, by simpa using hcs⟩

/-- What the copy reads. -/
theorem ints_src {w : World} {B : Nat} {ad : Addr} {zs : List Int} (h : Ints w B (some ad) zs) (h0 : 0 < zs.length) (w' : World) (hb : Below B w w') : ∀ j v, (zs.map (Value.int .i64))[j]? = some v → w'.cell? (ad.add j) = some v := by
  obtain ⟨b, off, e, hlt, hc⟩ := h h0
  simp only [Option.some.injEq] at e
  subst e
  intro j v hv
  have hj : j < zs.length := by
    rcases Nat.lt_or_ge j zs.length with h | h
    · exact h
    · simp [h] at hv
  have := (hb.cell (p := ⟨b, off + j, none⟩) hlt).trans (hc j hj)
  simp [hj] at hv
  rw [← hv]
  rw [add_plain]
  simpa [hj] using this

theorem splice_all (cur cs : List Value) (h : cs.length = cur.length) : splice cur 0 cs = cs := by
  simp [splice, h]

theorem or_of {p q r : Prop} {a b c : Bool} (ha : a = true ↔ p) (hb : b = true ↔ q) (hc : c = true ↔ r) (h : p ↔ (q ∨ r)) : a = (b || c) := by
  rw [← ha, ← hb, ← hc] at h
  revert h
  cases a <;> cases b <;> cases c <;> decide
theorem eq_of {p : Prop} {a b : Bool} (ha : a = true ↔ p) (hb : b = true ↔ p) : a = b := by
  rw [← hb] at ha
  revert ha
  cases a <;> cases b <;> decide

theorem hide {p : Prop} (h : p) : Hid p := h

theorem zzFed_n (last : Int) (a1 a2 a3 a4 : Option Addr) (c1 c2 c3 c4 : Nat) (ps os ids feds : List Int) (m : Nat) (w : World) (hn : ps.length ≤ 1024) (hn2 : m ≤ 1024) (hm : ids.length = m) (ho : os.length = ps.length) (hf : feds.length = m)
    (h1 : Ints w w.heap.size a1 ps) (h2 : Ints w w.heap.size a2 os) (h3 : Ints w w.heap.size a3 ids) (h4 : Ints w w.heap.size a4 feds) :
    Calls Try.prog 7 #[.int .i64 last, .slice a1 ps.length c1, .slice a2 ps.length c2, .slice a3 m c3, .slice a4 m c4] w fun e w' => ∃ r, e = .returned (.bool r) ∧ (r = true ↔ Plain.FedP last ps os ids feds) ∧ Below w.heap.size w w' := by
  subst hm
  exact zzFed_any last a1 a2 a3 a4 c1 c2 c3 c4 ps os ids feds w hn hn2 ho hf h1 h2 h3 h4

theorem ints_new {w : World} {g : Nat} {zs : List Int} (hg : g < w.heap.size) (h : ∀ i, i < zs.length → w.cell? ⟨g, i, none⟩ = some (.int .i64 (zs.getD i 0))) : Ints w w.heap.size (some ⟨g, 0, none⟩) zs :=
  fun _ => ⟨g, 0, rfl, hg, fun i hi => by rw [Nat.zero_add]; exact h i hi⟩

theorem ints_take {w : World} {B : Nat} {a : Option Addr} {zs : List Int} (h : Ints w B a zs) (c : Nat) : Ints w B a (zs.take c) := by
  intro h0
  simp at h0
  obtain ⟨b, off, e, hb, hc⟩ := h (by omega)
  refine ⟨b, off, e, hb, fun i hi => ?_⟩
  simp at hi
  have := hc i (by omega)
  simpa [List.getElem?_take, show i < c by omega] using this

theorem ints_drop {w : World} {B g n : Nat} {zs : List Int} (h : Ints w B (some ⟨g, 0, none⟩) zs) (c : Nat) (a : Option Addr) (ha : c < zs.length → a = some ⟨g, c, none⟩) : Ints w B a (zs.drop c) := by
  intro h0
  simp at h0
  obtain ⟨b, off, e, hb, hc⟩ := h (by omega)
  simp at e
  obtain ⟨rfl, rfl⟩ := e
  refine ⟨g, c, ha (by omega), hb, fun i hi => ?_⟩
  simp at hi
  have := hc (c + i) (by omega)
  simpa using this

set_option maxHeartbeats 1600000 in
set_option maxRecDepth 100000 in
theorem law_core (last : Int) (c : Nat) (a1 a2 a3 a4 : Option Addr) (c1 c2 c3 c4 : Nat) (ps os ids feds : List Int) (w : World) (hn : ps.length ≤ 1024) (hn3 : ids.length ≤ 1024) (ho : os.length = ps.length) (hf : feds.length = ids.length) (hc : c ≤ ids.length)
    (h1 : Ints w w.heap.size a1 ps) (h2 : Ints w w.heap.size a2 os) (h3 : Ints w w.heap.size a3 ids) (h4 : Ints w w.heap.size a4 feds) (e2 : a2 = none → ps.length = 0 ∧ c2 = 0) (e4 : a4 = none → ids.length = 0 ∧ c4 = 0) :
    Calls Try.prog 3 #[.int .i64 last, .slice a1 ps.length c1, .slice a2 ps.length c2, .slice a3 ids.length c3, .slice a4 ids.length c4, .int .i64 c] w fun e w' => e = .returned (.bool true) ∧ Below w.heap.size w w' := by
  have hbytes := fun w => bytes_any last c a1 a2 a3 a4 ps.length ps.length ids.length ids.length c1 c2 c3 c4 w (by unfold maxLen; omega) (by unfold maxLen; omega) (by unfold maxLen; omega) (by unfold maxLen; omega)
  have HO : Hid (os.length = ps.length) := ho
  have HF : Hid (feds.length = ids.length) := hf
  have E2 : Hid (a2 = none → ps.length = 0 ∧ c2 = 0) := e2
  have E4 : Hid (a4 = none → ids.length = 0 ∧ c4 = 0) := e4
  clear ho hf e2 e4
  have hne := fun (w : World) (a : Option Addr) (n c : Nat) => run_neq_slice_nil_any (P := Try.prog) w 23 2 a n c 0 0 Try.underlying23
  obtain ⟨i0, hi, hz0, hz1, hz2⟩ := info_parts Try.info2
  go_enter Try.func3, Try.ntmps3
  go_wp2_with fail
  refine (hbytes _).mono ?_
  rintro e w' ⟨r, rfl, rfl⟩
  clear hbytes
  cases r
  · go_wp2
    go_ret
    exact ⟨rfl, Below.refl _ _⟩
  go_upto_if 81 with fail
  go_cut [2] from 21 (fun s wx => ∃ (a : Option Addr) (cc : Nat), s = .slice a ps.length cc ∧ Copied wx a ps.length cc os ∧ Below w'.heap.size w' wx)
  case first =>
    cases a2 with
    | none =>
      have H0 : Hid (ps.length = 0 ∧ c2 = 0) := E2.out rfl
      clear E2
      go_wp2
      go_meet
      exact ⟨none, c2, rfl, ⟨fun h0 => by have := H0.out; rw [HO.out] at h0; omega, .inl ⟨rfl, H0.out⟩⟩, Below.refl _ _⟩
    | some ad =>
      clear E2 E4 h1 h3 h4
      go_upto_region 13 with (at_make; refine wpList_make_full _ rfl (.tmp 83) (.tmp 83) 23 rfl w'.heap.size 2 i0 (.int .i64 0) 1 Try.underlying23 hi hz0 hz1 .i64 .i64 _ _ ps.length rfl rfl rfl rfl (by rw [hz2]; omega) (by unfold maxLen; omega) (Nat.le_refl _) ?_; intro w1 hown hgr)
      have hb1 : Below w'.heap.size w' w1 := (Below.refl _ _).grown hgr (Nat.le_refl _) (fun k hk => by simp at hk)
      have hsz : w'.heap.size < w1.heap.size := (hown.lt w'.heap.size rfl).2
      obtain ⟨cur, hcur, hlen⟩ := own_block hown
      have HL : Hid (cur.length = ps.length) := hlen
      clear hlen hown hgr
      have hsrc : 0 < os.length → ∀ j v, (os.map (Value.int .i64))[j]? = some v → w1.cell? (ad.add j) = some v := fun h0 => ints_src h2 h0 w1 hb1
      obtain ⟨cs, hcs⟩ : ∃ cs, cs = os.map (Value.int .i64) := ⟨_, rfl⟩
      have HCS : Hid (cs = os.map (Value.int .i64)) := hcs
      have hlc : cs.length = os.length := by rw [hcs]; simp
      rw [← hcs, ← hlc] at hsrc
      have HSRC : Hid (0 < cs.length → ∀ j v, cs[j]? = some v → w1.cell? (ad.add j) = some v) := hsrc
      have HCL : Hid (cs.length = ps.length) := by show cs.length = ps.length; rw [hlc]; exact HO.out
      clear hsrc hcs hlc h2
      have HCUR : Hid (w1.heap[w'.heap.size]? = some (.cells cur.toArray 2 (0, 0))) := hcur
      clear hcur
      go_wp2_with (refine wpList_copy_splice rfl (.tmp 85) (.tmp 86) 23 23 rfl 2 Try.underlying23 Try.size2 (some ⟨w'.heap.size, 0, none⟩) (some ad) ps.length ps.length ps.length c2 rfl rfl w'.heap.size 0 cur 2 HCUR.out cs (by rw [HCL.out]; exact (Nat.min_self _).symm) (fun h0 => ⟨rfl, ad, rfl, HSRC.out h0⟩) (by rw [HCL.out, HL.out]; omega) (by rw [HCS.out]; exact ints_oneCell _ _) w'.heap.size w' hb1 (Nat.le_refl _) ?_; intro w2 hrow hb2)
      go_meet
      have hrow' := hrow.out
      rw [splice_all _ _ (by rw [HCL.out, HL.out]), HCS.out] at hrow'
      have hcp := copied_new (lt_of_block hrow') hrow'
      rw [HO.out] at hcp
      exact ⟨_, _, rfl, hcp, hb2⟩
  case rest =>
  obtain ⟨a2', c2', rfl, hcp2, hba⟩ := hcut
  rename World => wa
  have h1 := h1.later hba hba.size
  have h3 := h3.later hba hba.size
  have h4 := h4.later hba hba.size
  clear h2 E2
  go_upto_if 90 with fail
  go_cut [4] from 21 (fun s wx => ∃ (a : Option Addr) (cc : Nat), s = .slice a ids.length cc ∧ Copied wx a ids.length cc feds ∧ Below wa.heap.size wa wx)
  case first =>
    cases a4 with
    | none =>
      have H0 : Hid (ids.length = 0 ∧ c4 = 0) := E4.out rfl
      clear E4
      go_wp2
      go_meet
      exact ⟨none, c4, rfl, ⟨fun h0 => by have := H0.out; rw [HF.out] at h0; omega, .inl ⟨rfl, H0.out⟩⟩, Below.refl _ _⟩
    | some ad =>
      clear E4 hcp2 h1 h3
      go_upto_region 17 with (at_make; refine wpList_make_full _ rfl (.tmp 92) (.tmp 92) 23 rfl wa.heap.size 2 i0 (.int .i64 0) 1 Try.underlying23 hi hz0 hz1 .i64 .i64 _ _ ids.length rfl rfl rfl rfl (by rw [hz2]; omega) (by unfold maxLen; omega) (Nat.le_refl _) ?_; intro w1 hown hgr)
      have hb1 : Below wa.heap.size wa w1 := (Below.refl _ _).grown hgr (Nat.le_refl _) (fun k hk => by simp at hk)
      have hsz : wa.heap.size < w1.heap.size := (hown.lt wa.heap.size rfl).2
      obtain ⟨cur, hcur, hlen⟩ := own_block hown
      have HL : Hid (cur.length = ids.length) := hlen
      clear hlen hown hgr
      have hsrc : 0 < feds.length → ∀ j v, (feds.map (Value.int .i64))[j]? = some v → w1.cell? (ad.add j) = some v := fun h0 => ints_src h4 h0 w1 hb1
      obtain ⟨cs, hcs⟩ : ∃ cs, cs = feds.map (Value.int .i64) := ⟨_, rfl⟩
      have HCS : Hid (cs = feds.map (Value.int .i64)) := hcs
      have hlc : cs.length = feds.length := by rw [hcs]; simp
      rw [← hcs, ← hlc] at hsrc
      have HSRC : Hid (0 < cs.length → ∀ j v, cs[j]? = some v → w1.cell? (ad.add j) = some v) := hsrc
      have HCL : Hid (cs.length = ids.length) := by show cs.length = ids.length; rw [hlc]; exact HF.out
      clear hsrc hcs hlc h4
      have HCUR : Hid (w1.heap[wa.heap.size]? = some (.cells cur.toArray 2 (0, 0))) := hcur
      clear hcur
      go_wp2_with (refine wpList_copy_splice rfl (.tmp 94) (.tmp 95) 23 23 rfl 2 Try.underlying23 Try.size2 (some ⟨wa.heap.size, 0, none⟩) (some ad) ids.length ids.length ids.length c4 rfl rfl wa.heap.size 0 cur 2 HCUR.out cs (by rw [HCL.out]; exact (Nat.min_self _).symm) (fun h0 => ⟨rfl, ad, rfl, HSRC.out h0⟩) (by rw [HCL.out, HL.out]; omega) (by rw [HCS.out]; exact ints_oneCell _ _) wa.heap.size wa hb1 (Nat.le_refl _) ?_; intro w2 hrow hb2)
      go_meet
      have hrow' := hrow.out
      rw [splice_all _ _ (by rw [HCL.out, HL.out]), HCS.out] at hrow'
      have hcp := copied_new (lt_of_block hrow') hrow'
      rw [HF.out] at hcp
      exact ⟨_, _, rfl, hcp, hb2⟩
  case rest =>
  obtain ⟨a4', c4', rfl, hcp4, hbb⟩ := hcut
  rename World => wb
  replace h1 := h1.later hbb hbb.size
  replace h3 := h3.later hbb hbb.size
  replace hcp2 := hcp2.later hbb
  have hbw : Below w'.heap.size w' wb := hba.trans (hbb.mono hba.size)
  have HX := hide hcp2.2
  have h2 := hcp2.1
  have h4 := hcp4.1
  replace hcp4 := hcp4.2
  clear E4 hba hbb hcp2 HX hi hz0 hz1 hz2
  go_wp2_with fail
  refine (peerIDs_any a1 c1 ps _ hn h1).mono ?_
  rintro e w3 ⟨rfl, hb3, hs3, hc3⟩
  have hf3 := ints_new hs3 hc3
  replace h1 := h1.later hb3 hb3.size
  replace h2 := h2.later hb3 hb3.size
  replace h3 := h3.later hb3 hb3.size
  replace h4 := h4.later hb3 hb3.size
  replace hbw := hbw.trans (hb3.mono hbw.size)
  clear hb3 hc3 hs3
  go_wp2_with fail
  refine (peerIDs_any a3 c3 ids _ hn3 h3).mono ?_
  rintro e w4 ⟨rfl, hb4, hs4, hc4⟩
  have hq4 := ints_new hs4 hc4
  replace h1 := h1.later hb4 hb4.size
  replace h2 := h2.later hb4 hb4.size
  replace h3 := h3.later hb4 hb4.size
  replace h4 := h4.later hb4 hb4.size
  replace hf3 := hf3.later hb4 hb4.size
  replace hbw := hbw.trans (hb4.mono hbw.size)
  clear hb4 hc4 hs4
  go_wp2_with fail
  refine (zzFed_n last _ _ _ _ _ _ _ _ ps os ids feds _ _ hn hn3 rfl HO.out HF.out hf3 h2 hq4 h4).mono ?_
  rintro e w5 ⟨whole, rfl, hwhole, hb5⟩
  replace h1 := h1.later hb5 hb5.size
  replace h2 := h2.later hb5 hb5.size
  replace h3 := h3.later hb5 hb5.size
  replace h4 := h4.later hb5 hb5.size
  replace hf3 := hf3.later hb5 hb5.size
  replace hq4 := hq4.later hb5 hb5.size
  replace hbw := hbw.trans (hb5.mono hbw.size)
  have HW := hide hwhole
  clear hb5 hwhole
  obtain rfl : c4' = ids.length := by
    rcases hcp4 with ⟨_, h0, rfl⟩ | ⟨g4, _, rfl⟩
    · omega
    · rfl
  have hcI : (c : Int) ≤ (ids.length : Int) := by omega
  have HC4 := hide hcp4
  clear hcp4
  have htl : (ids.take c).length = c := by simp; omega
  have htf : (feds.take c).length = c := by have := HF.out; simp; omega
  have hL := fun W hW => zzFed_n last (some ⟨wb.heap.size, 0, none⟩) a2' (some ⟨w3.heap.size, 0, none⟩) a4' ps.length c2' ids.length ids.length ps os (ids.take c) (feds.take c) c W hn (by omega) htl HO.out htf (hf3.later hW hW.size) (h2.later hW hW.size) (ints_take (hq4.later hW hW.size) c) (ints_take (h4.later hW hW.size) c)
  have HL := hide hL
  clear hL htl htf
  go_upto_region 23 with fail
  go_cut [19] from 21 (fun s wx => ∃ r, s = .bool r ∧ (r = true ↔ Plain.FedP last ps os (ids.take c) (feds.take c)) ∧ Below w5.heap.size w5 wx)
  case first =>
    go_region_with (go_at_call 7; refine (HL.out _ (Below.drew (Below.refl _ _))).mono ?_; rintro e w6 ⟨r, rfl, hr, hb6⟩)
    all_goals
      have hb7 : Below w5.heap.size w5 w6 := (Below.drew (Below.refl _ _)).trans (hb6.mono (by simp))
      go_wp2_with fail
      go_meet
      exact ⟨r, rfl, hr, hb7⟩
  case rest =>
  obtain ⟨left, rfl, hleft, hb6⟩ := hcut
  rename World => w6
  have HLE := hide hleft
  clear hleft HL
  replace h1 := h1.later hb6 hb6.size
  replace h2 := h2.later hb6 hb6.size
  replace h3 := h3.later hb6 hb6.size
  replace h4 := h4.later hb6 hb6.size
  replace hf3 := hf3.later hb6 hb6.size
  replace hq4 := hq4.later hb6 hb6.size
  replace hbw := hbw.trans (hb6.mono hbw.size)
  clear hb6
  go_upto_region 24 with fail
  go_cut [20] from 21 (fun s wx => ∃ r, s = .bool r ∧ (r = true ↔ Plain.FedP last ps os (ids.drop c) (feds.drop c)) ∧ Below w6.heap.size w6 wx)
  case first =>
    by_cases hcl : ids.length = c
    · have HD := hide (show ids.drop c = [] ∧ feds.drop c = [] from ⟨by simp; omega, by have := HF.out; simp; omega⟩)
      have hL := fun W hW => zzFed_n last (some ⟨wb.heap.size, 0, none⟩) a2' (some ⟨w3.heap.size, 0, none⟩) a4' ps.length c2' 0 0 ps os [] [] 0 W hn (by omega) rfl HO.out rfl (hf3.later hW hW.size) (h2.later hW hW.size) (fun h0 => absurd h0 (by simp)) (fun h0 => absurd h0 (by simp))
      have HL := hide hL
      clear hL
      subst hcl
      go_region_with (go_at_call 7; refine (HL.out _ (Below.drew (Below.refl _ _))).mono ?_; rintro e w7 ⟨r, rfl, hr, hb7⟩)
      all_goals
        have hb8 : Below w6.heap.size w6 w7 := (Below.drew (Below.refl _ _)).trans (hb7.mono (by simp))
        go_wp2_with fail
        go_meet
        exact ⟨r, rfl, by rw [HD.out.1, HD.out.2]; exact hr, hb8⟩
    · have hA3 : Ints w6 w6.heap.size (some ⟨w3.heap.size, c, none⟩) (ids.drop c) := ints_drop (n := 0) hq4 c _ (fun h => rfl)
      have hA4 : Ints w6 w6.heap.size (Option.map (fun x => x.add c) a4') (feds.drop c) := by
        rcases HC4.out with ⟨rfl, h0, _⟩ | ⟨g4, rfl, _⟩
        · omega
        · exact ints_drop (n := 0) h4 c _ (fun h => by simp only [Option.map_some]; rw [add_plain, Nat.zero_add])
      have htl : (ids.drop c).length = ids.length - c := by simp
      have htf : (feds.drop c).length = ids.length - c := by have := HF.out; simp; omega
      have hL := fun W hW => zzFed_n last (some ⟨wb.heap.size, 0, none⟩) a2' _ _ ps.length c2' (ids.length - c) (ids.length - c) ps os (ids.drop c) (feds.drop c) (ids.length - c) W hn (by omega) htl HO.out htf (hf3.later hW hW.size) (h2.later hW hW.size) (hA3.later hW hW.size) (hA4.later hW hW.size)
      have HL := hide hL
      clear hL htl htf hA3 hA4
      go_region_with (go_at_call 7; refine (HL.out _ (Below.drew (Below.refl _ _))).mono ?_; rintro e w7 ⟨r, rfl, hr, hb7⟩)
      all_goals
        have hb8 : Below w6.heap.size w6 w7 := (Below.drew (Below.refl _ _)).trans (hb7.mono (by simp))
        go_wp2_with fail
        go_meet
        exact ⟨r, rfl, hr, hb8⟩
  case rest =>
  obtain ⟨right, rfl, hright, hb7⟩ := hcut
  rename World => w7
  have HRI := hide hright
  clear hright
  replace h1 := h1.later hb7 hb7.size
  replace h2 := h2.later hb7 hb7.size
  replace h3 := h3.later hb7 hb7.size
  replace h4 := h4.later hb7 hb7.size
  replace hbw := hbw.trans (hb7.mono hbw.size)
  clear hb7 hf3 hq4
  have hor : whole = (left || right) := or_of HW.out HLE.out HRI.out (Plain.fedP_cut last ps os ids feds c hc)
  have HM := hide ((model_any last a1 a2' a3 a4' c1 c2' c3 ids.length ps os ids feds w7 hn hn3 HO.out HF.out h1 h2 h3 h4).mono (R' := fun e w' => e = .returned (.bool whole) ∧ Below w7.heap.size w7 w') (by
    rintro e w8 ⟨r, rfl, hr, hb8⟩
    rw [Plain.model_iff] at hr
    exact ⟨by rw [eq_of hr HW.out], hb8⟩))
  clear HW HLE HRI h1 h2 h3 h4 HC4
  subst hor
  have hnq : ((left || right) != (left || right)) = false := by cases left <;> cases right <;> rfl
  cases left <;> cases right
  all_goals
    go_wp2_with fail
    refine HM.out.mono ?_
    rintro e w8 ⟨rfl, hb8⟩
    replace hbw := hbw.trans (hb8.mono hbw.size)
    go_wp2
    go_ret
    exact ⟨rfl, hbw⟩
end Go.Proofs.Qxb6612563a
