namespace Go.Proofs.Qxb6612563a.Plain

/-- 'r' is the first place at which 'x' stands in 'zs', or -1. -/
def IsFirst (zs : List Int) (x r : Int) : Prop :=
  (r = -1 ∧ ∀ i, i < zs.length → zs.getD i 0 ≠ x) ∨
  ∃ i : Nat, r = i ∧ i < zs.length ∧ zs.getD i 0 = x ∧ ∀ j, j < i → zs.getD j 0 ≠ x

/-- What fedBy asks of one quiet peer (id, fed): a feed speaks for it (the first that names it), and the peer was the last or that feed was overtaken late enough. -/
def QuietP (last : Int) (ps os : List Int) (id fed : Int) : Prop :=
  ∃ i : Nat, i < ps.length ∧ ps.getD i 0 = id ∧ (∀ j, j < i → ps.getD j 0 ≠ id) ∧ (last = id ∨ fed ≤ os.getD i 0)

/-- The answer of fedBy's own test at one quiet peer, the feed's place being r. -/
def quietB (last : Int) (os : List Int) (id fed r : Int) : Bool := decide (0 ≤ r) && (last == id || decide (fed ≤ os.getD r.toNat 0))

theorem quietB_iff (last : Int) (ps os : List Int) (id fed r : Int) (h : IsFirst ps id r) : quietB last os id fed r = true ↔ QuietP last ps os id fed := by
  rcases h with ⟨rfl, hno⟩ | ⟨i, rfl, hi, he, hno⟩
  · constructor
    · intro h
      simp [quietB] at h
    · rintro ⟨i, hi, he, _⟩
      exact absurd he (hno i hi)
  · constructor
    · intro h
      refine ⟨i, hi, he, hno, ?_⟩
      simpa [quietB] using h
    · rintro ⟨i', hi', he', hno', h⟩
      have : i' = i := by
        rcases Nat.lt_trichotomy i' i with h1 | h1 | h1
        · exact absurd he' (hno i' h1)
        · exact h1
        · exact absurd he (hno' i h1)
      subst this
      simpa [quietB] using h

theorem first_one {zs : List Int} {x r r' : Int} (h : IsFirst zs x r) (h' : IsFirst zs x r') : r = r' := by
  rcases h with ⟨rfl, hno⟩ | ⟨i, rfl, hi, he, hno⟩
  · rcases h' with ⟨rfl, _⟩ | ⟨i', rfl, hi', he', _⟩
    · rfl
    · exact absurd he' (hno i' hi')
  · rcases h' with ⟨rfl, hno'⟩ | ⟨i', rfl, hi', he', hno'⟩
    · exact absurd he (hno' i hi)
    · rcases Nat.lt_trichotomy i i' with h1 | h1 | h1
      · exact absurd he (hno' i h1)
      · rw [h1]
      · exact absurd he' (hno i' h1)

/-- fedBy: some quiet peer meets the test. -/
def FedP (last : Int) (ps os ids feds : List Int) : Prop := ∃ j : Nat, j < ids.length ∧ QuietP last ps os (ids.getD j 0) (feds.getD j 0)

theorem fedP_cut (last : Int) (ps os ids feds : List Int) (c : Nat) (hc : c ≤ ids.length) :
    FedP last ps os ids feds ↔ (FedP last ps os (ids.take c) (feds.take c) ∨ FedP last ps os (ids.drop c) (feds.drop c)) := by
  constructor
  · rintro ⟨j, hj, h⟩
    by_cases e : j < c
    · left
      refine ⟨j, by simp; omega, ?_⟩
      simpa [List.getElem?_take, e] using h
    · right
      refine ⟨j - c, by simp; omega, ?_⟩
      have e2 : c + (j - c) = j := by omega
      simpa [e2] using h
  · rintro (⟨j, hj, h⟩ | ⟨j, hj, h⟩)
    · simp at hj
      have hjc : j < c := by omega
      exact ⟨j, by omega, by simpa [List.getElem?_take, hjc] using h⟩
    · simp at hj
      exact ⟨c + j, by omega, by simpa using h⟩

/-- The model's words, over the feeds. -/
def ModelP (last : Int) (ps os ids feds : List Int) (k : Nat) : Prop :=
  IsFirst ps (ps.getD k 0) k ∧ ∃ j : Nat, j < ids.length ∧ ids.getD j 0 = ps.getD k 0 ∧ (last = ids.getD j 0 ∨ feds.getD j 0 ≤ os.getD k 0)

theorem model_iff (last : Int) (ps os ids feds : List Int) : (∃ k : Nat, k < ps.length ∧ ModelP last ps os ids feds k) ↔ FedP last ps os ids feds := by
  constructor
  · rintro ⟨k, hk, hf, j, hj, he, h⟩
    refine ⟨j, hj, k, hk, he.symm, ?_, h⟩
    rcases hf with ⟨hf, _⟩ | ⟨i, hi, _, _, hno⟩
    · omega
    · have : i = k := by omega
      subst this
      rw [he]
      exact hno
  · rintro ⟨j, hj, k, hk, he, hno, h⟩
    exact ⟨k, hk, .inr ⟨k, rfl, hk, rfl, by rw [he]; exact hno⟩, j, hj, he.symm, h⟩

end Go.Proofs.Qxb6612563a.Plain
