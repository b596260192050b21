import Derived.Test.Qxb6609279aNew
import Derived.Test.Qxb6609279aPut
namespace Go.Proofs.Qxb6609279a
open Go.ChangeShapes Go.WideShapes Go.ChangeAt Go.RowKit Go.Maps
set_option linter.unusedVariables false

theorem CacheOK.grow {w w' : World} {bc bn bm : Nat} {now : Int} {ents : List Ent} {k k' : Nat} (h : CacheOK w bc bn bm now ents k) (hg : w.grownBy w' (some bm)) (hm : MapOK w' bm ents k') : CacheOK w' bc bn bm now ents k' := by
  obtain ⟨h1, h2, h3, h4, h5, h6, h7, h8⟩ := h
  have gc := hg.block bc h1 (by simp [h3])
  have gn := hg.block bn h2 (by simp [h4])
  exact ⟨Nat.lt_of_lt_of_le h1 hg.size, Nat.lt_of_lt_of_le h2 hg.size, h3, h4, (World.cell?_of_block gc).trans h5, (World.cell?_of_block gc).trans h6, (World.cell?_of_block gn).trans h7, hm⟩
theorem CacheOK.kept {w w' : World} {bc bn bm : Nat} {now : Int} {ents : List Ent} {k : Nat} (h : CacheOK w bc bn bm now ents k) (hg : Below w.heap.size w w') : CacheOK w' bc bn bm now ents k := by
  have hg' := below_grown hg
  exact h.grow ⟨hg'.os, hg'.tape, hg'.output, hg'.size, fun i hi _ => hg'.block i hi (by simp)⟩ (h.2.2.2.2.2.2.2.kept hg')

/-- A slice of entries, six cells each, all of it below block B. -/
def Ents (w : World) (B : Nat) (a : Option Addr) (es : List Ent) : Prop :=
  ∀ i e, es[i]? = some e → ∃ b off, a = some ⟨b, off, none⟩ ∧ b < B ∧ w.cell? ⟨b, off + i * 6, none⟩ = some (.string e.kt) ∧ w.cell? ⟨b, off + i * 6 + 1, none⟩ = some (.string e.h) ∧ w.cell? ⟨b, off + i * 6 + 2, none⟩ = some (.string e.p) ∧
    w.cell? ⟨b, off + i * 6 + 3, none⟩ = some (.string e.ac) ∧ w.cell? ⟨b, off + i * 6 + 4, none⟩ = some (.int .i64 e.ex) ∧ w.cell? ⟨b, off + i * 6 + 5, none⟩ = some (.string e.us)
theorem Ents.later {w w' : World} {B B' : Nat} {a : Option Addr} {es : List Ent} (h : Ents w B a es) (hb : Below B w w') (hB : B ≤ B') : Ents w' B' a es := by
  intro i e he
  obtain ⟨b, off, rfl, hlt, c0, c1, c2, c3, c4, c5⟩ := h i e he
  exact ⟨b, off, rfl, by omega, (hb.cell (p := ⟨b, _, none⟩) hlt).trans c0, (hb.cell (p := ⟨b, _, none⟩) hlt).trans c1, (hb.cell (p := ⟨b, _, none⟩) hlt).trans c2, (hb.cell (p := ⟨b, _, none⟩) hlt).trans c3, (hb.cell (p := ⟨b, _, none⟩) hlt).trans c4, (hb.cell (p := ⟨b, _, none⟩) hlt).trans c5⟩

/-- What the reading of an entry gives. -/
def EntWf (e : Ent) : Prop := e.kt.size ≤ maxLen ∧ e.h.size ≤ maxLen ∧ e.p.size ≤ maxLen ∧ e.ac.size ≤ maxLen ∧ e.us.size ≤ maxLen ∧ -9223372036854775808 ≤ e.ex ∧ e.ex ≤ 9223372036854775807

theorem hOf_le {kt h : ByteArray} (hh : h.size ≤ maxLen) : (hOf kt h).size ≤ maxLen := by
  unfold hOf
  split
  · exact hh
  · exact Nat.zero_le _
theorem pOf_le {kt h : ByteArray} (hh : h.size ≤ maxLen) : (pOf kt h).size ≤ maxLen := by
  unfold pOf
  split
  · exact hh
  · exact Nat.zero_le _
theorem keyV_reads {kt h p ac : ByteArray} (h1 : kt.size ≤ maxLen) (h2 : h.size ≤ maxLen) (h3 : p.size ≤ maxLen) (h4 : ac.size ≤ maxLen) : ∃ l, keyOf Try.prog 74 (keyV kt h p ac) = some l :=
  key_reads _ _ _ _ h1 (hOf_le h2) (pOf_le h3) h4

set_option maxHeartbeats 800000 in
theorem fill_any (a : Option Addr) (c B bc bn bm : Nat) (now : Int) (ents : List Ent) (w : World) (hn : ents.length ≤ 9223372036854775807) (hwf : ∀ (i : Nat) e, ents[i]? = some e → EntWf e) (hB : B ≤ bm) (hBw : B ≤ w.heap.size) (h : Ents w B a ents) (hc : CacheOK w bc bn bm now ents 0) :
    Calls Try.prog 8 #[.pointer (some ⟨bc, 0, none⟩), .slice a ents.length c] w fun r w' => r = .returned (.tuple #[]) ∧ CacheOK w' bc bn bm now ents ents.length ∧ Below B w w' := by
  have HW := hide hwf
  have HE := hide h
  have HC := hide hc
  clear hwf h hc
  go_enter Try.func8, Try.ntmps8
  go_wp2
  go_loopw [4, 5] (fun i _ wr => ∃ k : Nat, k ≤ ents.length ∧ i = .int .i64 k ∧ Hid (CacheOK wr bc bn bm now ents k) ∧ Hid (Below B w wr)) (fun i _ _ => ents.length - (intOf i).toNat)
  case atStart => exact ⟨0, Nat.zero_le _, rfl, HC, hide (Below.refl _ _)⟩
  case round =>
    obtain ⟨k, hk, rfl, HCk, hbk⟩ := hrel
    by_cases hlt : k < ents.length
    · obtain ⟨e, he⟩ : ∃ e, ents[k]? = some e := ⟨_, List.getElem?_eq_getElem hlt⟩
      have we := hide (HW.out k e he)
      obtain ⟨b, off, rfl, hb, c0, c1, c2, c3, c4, c5⟩ := (HE.out.later hbk.out (Nat.le_refl _)) k e he
      have he' := hide he
      clear he
      go_wp2_with fail
      have HA := HCk.out.kept ((Below.refl wr.heap.size wr).alloc (Nat.le_refl _) (.cells #[.string e.kt, .string e.h, .string e.p, .string e.ac, .int .i64 e.ex, .string e.us] 27))
      have bA := hbk.out.alloc (Nat.le_trans hBw hbk.out.size) (.cells #[.string e.kt, .string e.h, .string e.p, .string e.ac, .int .i64 e.ex, .string e.us] 27)
      obtain ⟨g1, g2, g3, g4, g5, g6, g7, g8⟩ := HA
      refine (put_any bc bm ents k e _ he'.out (keyV_reads we.out.1 we.out.2.1 we.out.2.2.1 we.out.2.2.2.1) we.out.2.2.2.2.2.1 we.out.2.2.2.2.2.2 g1 g6 g8).mono ?_
      rintro r w1 ⟨rfl, hm1, hg1⟩
      have HK1 := hide (CacheOK.grow ⟨g1, g2, g3, g4, g5, g6, g7, g8⟩ hg1 hm1)
      have hb1 := hide (bA.grown hg1 (Nat.le_trans hBw bA.size) (fun j hj => by simp at hj; omega))
      clear c0 c1 c2 c3 c4 c5 g1 g2 g3 g4 g5 g6 g7 g8 hm1 hg1 bA HCk
      go_wp2
      go_roundw
      case rel => exact ⟨k + 1, by omega, by go_num, HK1, hb1⟩
      case measure => simp [intOf]; omega
    · go_wp2
      go_end0
      have : k = ents.length := by omega
      subst this
      exact ⟨rfl, HCk.out, hbk.out⟩
end Go.Proofs.Qxb6609279a
