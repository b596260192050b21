import Derived.Test.Qxb6609279aMap
namespace Go.Proofs.Qxb6609279a
set_option linter.unusedVariables false

/-- The k-th kind in the order of preference. -/
def kindOf (k : Nat) : ByteArray := if k = 0 then IMG else if k = 1 then REG else GLB

/-- What the last entry under a key gives at the time 'now'. -/
def Pick (now : Int) (ents : List Ent) (key : Value) (r : Option ByteArray) : Prop :=
  (NoneAt ents ents.length key ∧ r = none) ∨ ∃ i e, LastAt ents ents.length key i ∧ ents[i]? = some e ∧ r = if now < e.ex then some e.us else none

theorem lastAt_one {ents : List Ent} {n i j : Nat} {key : Value} (h : LastAt ents n key i) (h' : LastAt ents n key j) : i = j := by
  obtain ⟨a1, ⟨e, a2, a3⟩, a4⟩ := h
  obtain ⟨b1, ⟨f, b2, b3⟩, b4⟩ := h'
  rcases Nat.lt_trichotomy i j with h | h | h
  · exact absurd b3 (a4 j f h b1 b2)
  · exact h
  · exact absurd a3 (b4 i e h a1 a2)

theorem pick_one {now : Int} {ents : List Ent} {key : Value} {r r' : Option ByteArray} (h : Pick now ents key r) (h' : Pick now ents key r') : r = r' := by
  rcases h with ⟨h1, rfl⟩ | ⟨i, e, h1, h2, rfl⟩
  · rcases h' with ⟨_, rfl⟩ | ⟨j, f, g1, g2, rfl⟩
    · rfl
    · obtain ⟨a, ⟨e, b, c⟩, _⟩ := g1
      exact absurd c (h1 j e a b)
  · rcases h' with ⟨g1, rfl⟩ | ⟨j, f, g1, g2, rfl⟩
    · obtain ⟨a, ⟨e, b, c⟩, _⟩ := h1
      exact absurd c (g1 i e a b)
    · have := lastAt_one h1 g1
      subst this
      rw [h2] at g2
      cases g2
      rfl

/-- The answer: of the three keys the first that gives one. -/
def Ans (now : Int) (ents : List Ent) (host path account : ByteArray) (r : Option ByteArray) : Prop :=
  (∃ j, j < 3 ∧ (∀ j', j' < j → Pick now ents (keyV (kindOf j') host path account) none) ∧ Pick now ents (keyV (kindOf j) host path account) r ∧ r ≠ none) ∨
  (r = none ∧ ∀ j, j < 3 → Pick now ents (keyV (kindOf j) host path account) none)

theorem ans_one {now : Int} {ents : List Ent} {host path account : ByteArray} {r r' : Option ByteArray} (h : Ans now ents host path account r) (h' : Ans now ents host path account r') : r = r' := by
  rcases h with ⟨j, hj, h1, h2, h3⟩ | ⟨rfl, h1⟩
  · rcases h' with ⟨i, hi, g1, g2, g3⟩ | ⟨rfl, g1⟩
    · rcases Nat.lt_trichotomy i j with h | h | h
      · exact absurd (pick_one g2 (h1 i h)) g3
      · subst h
        exact pick_one h2 g2
      · exact absurd (pick_one h2 (g1 j h)) h3
    · exact absurd (pick_one h2 (g1 j hj)) h3
  · rcases h' with ⟨i, hi, g1, g2, g3⟩ | ⟨rfl, g1⟩
    · exact absurd (pick_one g2 (h1 i hi)) g3
    · rfl

/-- An entry bears the key of a kind: as the model asks it. -/
theorem ekey_iff (e : Ent) (j : Nat) (host path account : ByteArray) : ekey e = keyV (kindOf j) host path account ↔ (e.kt = kindOf j ∧ e.ac = account ∧ hOf (kindOf j) e.h = hOf (kindOf j) host ∧ pOf (kindOf j) e.p = pOf (kindOf j) path) := by
  unfold ekey keyV
  constructor
  · intro h
    simp at h
    obtain ⟨h1, h2, h3, h4⟩ := h
    rw [h1] at h2 h3
    exact ⟨h1, h4, h2, h3⟩
  · rintro ⟨h1, h2, h3, h4⟩
    rw [h1, h2, h3, h4]
end Go.Proofs.Qxb6609279a
