import Derived.Test.Qxb6609279aLast
namespace Go.Proofs.Qxb6609279a
open Go.ChangeShapes Go.WideShapes Go.ChangeAt Go.RowKit Go.Maps
set_option linter.unusedVariables false

theorem Try.info9 : (Try.prog.info? 9).map (fun i => (i.zero, i.size, i.bytes)) = some (some (.string ⟨#[]⟩), 1, 16) := by kernel_rfl

/-- What ZZLasting hands out for the answer r. -/
def GotU (w : World) (v : Value) (b : Bool) : Option ByteArray → Prop
  | none => v = .slice none 0 0 ∧ b = false
  | some us => b = true ∧ ∃ g c, v = .slice (some ⟨g, 0, none⟩) 1 c ∧ g < w.heap.size ∧ w.cell? ⟨g, 0, none⟩ = some (.string us)

def UserPost (w : World) (now : Int) (ents : List Ent) (host path account : ByteArray) (e : Ending) (w' : World) : Prop :=
  ∃ v b r, e = .returned (.tuple #[v, .bool b]) ∧ Ans now ents host path account r ∧ GotU w' v b r ∧ Below w.heap.size w w'

theorem own_one {w : World} {base : Nat} {v : Value} {us : ByteArray} (h : w.ownsRow base 9 1 v (0 + 1) ([] ++ [.string us])) : ∃ g c, v = .slice (some ⟨g, 0, none⟩) 1 c ∧ g < w.heap.size ∧ w.cell? ⟨g, 0, none⟩ = some (.string us) := by
  obtain ⟨_, h | ⟨g, cap, cur, rfl, hg, hb, hn, hm, hc, ht⟩⟩ := h
  · omega
  · refine ⟨g, cap, rfl, (Array.getElem?_eq_some_iff.1 hb).1, ?_⟩
    obtain ⟨cur⟩ := cur
    match cur, ht with
    | x :: rest, ht =>
      simp at ht
      subst ht
      simp [World.cell?, hb]

set_option maxHeartbeats 800000 in
set_option maxRecDepth 100000 in
theorem users_any (bc bn bm : Nat) (now : Int) (ents : List Ent) (host path account : ByteArray) (w : World) (hd0 : -9223372036854775808 ≤ now) (hd1 : now ≤ 9223372036854775807)
    (hwf : ∀ (i : Nat) e, ents[i]? = some e → EntWf e) (s1 : host.size ≤ maxLen) (s2 : path.size ≤ maxLen) (s3 : account.size ≤ maxLen) (hc : CacheOK w bc bn bm now ents ents.length) :
    Calls Try.prog 9 #[.pointer (some ⟨bc, 0, none⟩), .string host, .string path, .string account] w fun e w' => UserPost w now ents host path account e w' := by
  have HL := hide (lasting_any bc bn bm now ents host path account w hd0 hd1 hwf s1 s2 s3 hc)
  obtain ⟨i0, hi, hz0, hz1, hz2⟩ := info_parts Try.info9
  clear hwf hc
  go_enter Try.func9, Try.ntmps9
  go_wp2_with fail
  refine HL.out.mono ?_
  rintro e w1 ⟨v, b, r, rfl, ha, hgot, hb1⟩
  have HA := hide ha
  have HB := hide hb1
  clear ha hb1
  cases r with
  | none =>
    obtain ⟨rfl, rfl⟩ := hgot
    go_wp2_with fail
    refine wp_loop_rounds 1 ?_
    rw [rounds_succ]
    go_wp2
    go_ret2
    exact ⟨_, _, none, rfl, HA.out, ⟨rfl, rfl⟩, HB.out⟩
  | some us =>
    obtain ⟨rfl, ba, rfl, hba, hblk⟩ := hgot
    have c0 : w1.cell? ⟨ba, 0, none⟩ = some (.string ⟨#[]⟩) := by simp [World.cell?, hblk, authBlock]
    have c1 : w1.cell? ⟨ba, 1, none⟩ = some (.string ⟨#[]⟩) := by simp [World.cell?, hblk, authBlock]
    have c2 : w1.cell? ⟨ba, 2, none⟩ = some (.bool false) := by simp [World.cell?, hblk, authBlock]
    have c3 : w1.cell? ⟨ba, 3, none⟩ = some (.string ⟨#[]⟩) := by simp [World.cell?, hblk, authBlock]
    have c4 : w1.cell? ⟨ba, 4, none⟩ = some (.string ⟨#[]⟩) := by simp [World.cell?, hblk, authBlock]
    have c5 : w1.cell? ⟨ba, 5, none⟩ = some (.string us) := by simp [World.cell?, hblk, authBlock]
    have c6 : w1.cell? ⟨ba, 6, none⟩ = some (.string ⟨#[]⟩) := by simp [World.cell?, hblk, authBlock]
    clear hblk
    go_wp2_with fail
    refine wp_loop_rounds 2 ?_
    rw [rounds_succ]
    go_wp2_with (at_builtin; refine wpList_append_own _ rfl _ _ 31 rfl w1.heap.size 9 i0 (.string ⟨#[]⟩) 1 16 Try.underlying31 hi hz0 hz1 hz2 rfl (by decide) (.slice none 0 0) 0 [] rfl ⟨rfl, .inl ⟨rfl, rfl⟩⟩ ⟨w1.heap.size + 1, 0, none⟩ 1 1 [.string us] rfl rfl ?c1 ?c2 ?c3 ?c4 ?c5 ?_)
    case c1 =>
      intro j u hj
      match j, hj with
      | 0, hj => simp at hj; subst hj; simp [Addr.add]
    case c2 => intro u hu; simp at hu; subst hu; rfl
    case c3 => unfold maxLen; omega
    case c4 => omega
    case c5 => simp; omega
    intro v' w2 hown hgr _
    obtain ⟨g, cc, rfl, hg, hcell⟩ := own_one hown
    have HG := hide (And.intro hg hcell)
    have hb2 := hide ((((Below.refl w1.heap.size w1).alloc (Nat.le_refl _) (.cells #[.string ⟨#[]⟩, .string ⟨#[]⟩, .bool false, .string ⟨#[]⟩, .string ⟨#[]⟩, .string us, .string ⟨#[]⟩] 67)).alloc (by simp) (.cells #[.string us] 9)).grown hgr (by simp; omega) (fun k hk => by simp [Value.ownBlock] at hk))
    clear hown hgr hg hcell c0 c1 c2 c3 c4 c5 c6
    go_wp2
    rw [rounds_succ]
    go_wp2
    go_ret2
    exact ⟨_, _, some us, rfl, HA.out, ⟨rfl, g, cc, rfl, HG.out.1, HG.out.2⟩, HB.out.trans (hb2.out.mono HB.out.size)⟩
end Go.Proofs.Qxb6609279a
