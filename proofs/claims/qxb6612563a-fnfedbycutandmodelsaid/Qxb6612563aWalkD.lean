import Derived.Test.Qxb6612563aWalkC
namespace Go.Proofs.Qxb6612563a
open Go.ChangeShapes Go.WideShapes Go.ChangeAt Go.RowKit
set_option linter.unusedVariables false

set_option maxHeartbeats 800000 in
theorem zzFed_any (last : Int) (a1 a2 a3 a4 : Option Addr) (c1 c2 c3 c4 : Nat) (ps os ids feds : List Int) (w : World) (hn : ps.length ≤ 1024) (hn2 : ids.length ≤ 1024) (ho : os.length = ps.length) (hf : feds.length = ids.length)
    (h1 : Ints w w.heap.size a1 ps) (h2 : Ints w w.heap.size a2 os) (h3 : Ints w w.heap.size a3 ids) (h4 : Ints w w.heap.size a4 feds) :
    Calls Try.prog 7 #[.int .i64 last, .slice a1 ps.length c1, .slice a2 ps.length c2, .slice a3 ids.length c3, .slice a4 ids.length c4] w fun e w' => ∃ r, e = .returned (.bool r) ∧ (r = true ↔ Plain.FedP last ps os ids feds) ∧ Below w.heap.size w w' := by
  have HO : Hid (os.length = ps.length) := ho
  have HF : Hid (feds.length = ids.length) := hf
  clear ho hf
  obtain ⟨i0, hi, hz0, hz1, hz2⟩ := info_parts Try.info47
  go_enter Try.func7, Try.ntmps7
  go_wp2_with (at_make; refine wpList_make_full _ rfl (.tmp 17) (.tmp 17) 33 rfl w.heap.size 47 i0 (.agg #[.int .i64 0, .int .i64 0, .int .i64 0]) 3 Try.underlying33 hi hz0 hz1 .i64 .i64 _ _ ps.length rfl rfl rfl rfl (by rw [hz2]; omega) (by unfold maxLen; omega) (Nat.le_refl _) ?_; intro w1 hown hgr)
  have hb1 : Below w.heap.size w w1 := (Below.refl _ _).grown hgr (Nat.le_refl _) (fun k hk => by simp at hk)
  clear hgr hi hz0 hz1 hz2
  have hsz1 : w.heap.size < w1.heap.size := (hown.lt w.heap.size rfl).2
  go_wp2
  go_loopw [12] (fun i wr => ∃ k : Nat, k ≤ ps.length ∧ i = .int .i64 k ∧ FRow w wr w1.heap.size last ps os k) (fun i _ => ps.length - (intOf i).toNat)
  case atStart => exact ⟨0, Nat.zero_le _, rfl, _, hown.alloc _, fun j hj => absurd hj (Nat.not_lt_zero _), by simp, by simp, by simp, hb1.alloc (by omega) _⟩
  case round =>
    clear hown hb1
    obtain ⟨k, hk, rfl, hF⟩ := hrel
    by_cases hlt : k < ps.length
    · have hlo : k < os.length := by rw [HO.out]; exact hlt
      have HFR : Hid (FRow w wr w1.heap.size last ps os k) := hF
      obtain ⟨xs, hown, hcs, h17, h24, hbo, hbel⟩ := hF
      have hlen : xs.length = ps.length * 3 := hown.1
      obtain ⟨b, off, rfl, hb, hc⟩ := h1 (by omega)
      have hck := (hbel.cell (p := ⟨b, off + k, none⟩) hb).trans (hc k hlt)
      obtain ⟨b', off', rfl, hb', hc'⟩ := h2 (by omega)
      have hck' := (hbel.cell (p := ⟨b', off' + k, none⟩) hb').trans (hc' k hlo)
      have hold : ∀ j, j < 3 → ∃ u, wr.cell? ⟨w.heap.size, k * 3 + j, none⟩ = some u := fun j hj => ⟨xs[k * 3 + j]'(by omega), by rw [hown.cellAt (k * 3 + j) (by omega)]; simp⟩
      obtain ⟨u0, hu0⟩ := hold 0 (by omega)
      obtain ⟨u1, hu1⟩ := hold 1 (by omega)
      obtain ⟨u2, hu2⟩ := hold 2 (by omega)
      rw [Nat.add_zero] at hu0
      have hfr : ∀ j, wr.frozen? ⟨w.heap.size, j, none⟩ = false := fun j => hown.frozenAt j
      have f0 := hfr (k * 3)
      have f1 := hfr (k * 3 + 1)
      have f2 := hfr (k * 3 + 2)
      have hd : (k : Int) < (ps.length : Int) := by omega
      clear hold hown hbel hc hc' h1 h2 h3 h4 hfr hcs hlen xs
      go_wp2
      go_region
      go_wp2
      go_roundw
      case rel =>
        go_light
        exact ⟨k + 1, by omega, by go_num, HFR.out.step hlt hsz1 _ _ (by simp [hlt]) (by simp [hlo])⟩
      case measure => simp [intOf]; omega
    · have ek : k = ps.length := by omega
      subst ek
      rename World => wv
      have hfe := hF.feeds HO.out
      obtain ⟨xs, hown, hcs, h17, h24, hbo, hbel⟩ := hF
      have h3' := h3.later hbel (B' := wv.heap.size) hbel.size
      have h4' := h4.later hbel (B' := wv.heap.size) hbel.size
      clear h1 h2 h3 h4 hown hcs xs hlt
      obtain ⟨i1, hi, hz0, hz1, hz2⟩ := info_parts Try.info49
      go_wp2_with (at_make; refine wpList_make_full _ rfl (.tmp 43) (.tmp 43) 48 rfl wv.heap.size 49 i1 (.pointer none) 1 Try.underlying48 hi hz0 hz1 .i64 .i64 _ _ ids.length rfl rfl rfl rfl (by rw [hz2]; omega) (by unfold maxLen; omega) (Nat.le_refl _) ?_; intro w2 hown hgr)
      have hb2 : Below wv.heap.size wv w2 := (Below.refl _ _).grown hgr (Nat.le_refl _) (fun k hk => by simp at hk)
      clear hgr hi hz0 hz1 hz2
      go_wp2
      go_loopw [14] (fun i wq => ∃ k : Nat, k ≤ ids.length ∧ i = .int .i64 k ∧ PRow wv wq ids feds k) (fun i _ => ids.length - (intOf i).toNat)
      case atStart => exact ⟨0, Nat.zero_le _, rfl, _, hown, fun j hj => absurd hj (Nat.not_lt_zero _), hb2⟩
      case round =>
        clear hown hb2
        obtain ⟨k, hk, rfl, hP⟩ := hrel
        by_cases hlt : k < ids.length
        · have hlf : k < feds.length := by rw [HF.out]; exact hlt
          have HPR : Hid (PRow wv wr ids feds k) := hP
          obtain ⟨xs, hown, hcs, hbq⟩ := hP
          have hlen : xs.length = ids.length := by simpa using hown.1
          have hsz2 : wv.heap.size < wr.heap.size := (hown.lt wv.heap.size rfl).2
          obtain ⟨b, off, rfl, hb, hc⟩ := h3' (by omega)
          have hck := (hbq.cell (p := ⟨b, off + k, none⟩) hb).trans (hc k hlt)
          obtain ⟨b', off', rfl, hb', hc'⟩ := h4' (by omega)
          have hck' := (hbq.cell (p := ⟨b', off' + k, none⟩) hb').trans (hc' k hlf)
          obtain ⟨u0, hu0⟩ : ∃ u, wr.cell? ⟨wv.heap.size, k, none⟩ = some u := ⟨xs[k]'(by omega), by rw [hown.cellAt k (by omega)]; simp⟩
          have f0 : wr.frozen? ⟨wv.heap.size, k, none⟩ = false := hown.frozenAt k
          have hd : (k : Int) < (ids.length : Int) := by omega
          clear hown hbq hc hc' h3' h4' hcs hlen xs hfe h17 h24 hbo hbel
          go_wp2
          go_region
          go_wp2
          go_roundw
          case rel =>
            go_light
            exact ⟨k + 1, by omega, by go_num, HPR.out.step hlt _ (by simp [hlt]) (by simp [hlf])⟩
          case measure => simp [intOf]; omega
        · have ek : k = ids.length := by omega
          subst ek
          have hpe := hP.peers
          obtain ⟨xs, hown, hcs, hbq⟩ := hP
          have e17 := (hbq.cell (p := ⟨w1.heap.size, 17, none⟩) hbo).trans h17
          have e24 := (hbq.cell (p := ⟨w1.heap.size, 24, none⟩) hbo).trans h24
          have hfe' := hfe.later hbq hbq.size
          have hsq := hbq.size
          have hbt : Below w.heap.size w wr := hbel.trans (hbq.mono hbel.size)
          clear hown hcs xs hlt hfe h17 h24 h3' h4' hbel hbq
          go_wp2_with fail
          refine (fedBy_any _ _ ids feds w1.heap.size _ _ ps os last _ hn hn2 (by omega) e17 e24 hfe' hpe).mono ?_
          rintro e w3 ⟨r, rfl, hr, hb3⟩
          have hb4 : Below w.heap.size w w3 := hbt.trans (hb3.mono hbt.size)
          have HR : Hid (r = true ↔ Plain.FedP last ps os ids feds) := hr
          clear hr hb3 hpe hfe' e17 e24
          go_wp2
          go_ret
          exact ⟨r, rfl, HR.out, hb4⟩
end Go.Proofs.Qxb6612563a
