import Derived.Test.Qxb6609340aDoorPlain
import Derived.ChangeKeysEq
namespace Go.Proofs.Qxb6609340aDoor
open Go.ChangeShapes Go.WideShapes Go.ChangeAt Go.RowKit
set_option linter.unusedVariables false

/-- Two rows of four words are the same. -/
def same4 (a b c d a' b' c' d' : Int) : Bool := decide (a = a' ∧ b = b' ∧ c = c' ∧ d = d')
theorem same4_ids (x y : Id) : same4 x.a x.b x.c x.d y.a y.b y.c y.d = decide (x = y) := by
  obtain ⟨a, b, c, d⟩ := x
  obtain ⟨a', b', c', d'⟩ := y
  simp [same4]
theorem cells22 : Tryd.prog.cellsOf 22 = 1 := by kernel_rfl
theorem Tryd.info22 : (Tryd.prog.info? 22).map (fun i => (i.zero, i.size, i.bytes)) = some (some (.int .u64 0), 1, 8) := by kernel_rfl

theorem part22 (xs : Array Value) (i : Nat) (v : Int) (h : xs[i]? = some (.int .u64 v)) (w : World) : (part 22 xs i).run Tryd.prog w = .ok (.int .u64 v) w :=
  run_part_plain w (by kernel_rfl) h

@[go_sem] theorem eq23 (n : Nat) (a b c d a' b' c' d' : Int) (w : World) :
    (Op.equalIn (n + 1 + 1) 23 (.agg #[.int .u64 a, .int .u64 b, .int .u64 c, .int .u64 d]) (.agg #[.int .u64 a', .int .u64 b', .int .u64 c', .int .u64 d'])).run Tryd.prog w = .ok (same4 a b c d a' b' c' d') w := by
  obtain ⟨i0, hi, hz0, hz1, hz2⟩ : ∃ i, Tryd.prog.info? 22 = some i ∧ True ∧ True ∧ True := by
    have := Tryd.info22
    cases h : Tryd.prog.info? 22 with
    | none => rw [h] at this; simp at this
    | some i => exact ⟨i, rfl, trivial, trivial, trivial⟩
  rw [run_equalIn_array w (n + 1) _ _ Tryd.underlying23 hi, cells22]
  rw [show List.range 4 = [0, 1, 2, 3] from rfl]
  have e22 : ∀ (u v : Int) (w : World), (Op.equalIn (n + 1) 22 (.int .u64 u) (.int .u64 v)).run Tryd.prog w = .ok (u == v) w := fun u v w => run_equalIn_int w n 22 .u64 .u64 u v Tryd.underlying22
  have q : ∀ (u : Value) (a b c d : Int) (i : Nat) (v : Int) (w : World), #[Value.int .u64 a, .int .u64 b, .int .u64 c, .int .u64 d][i]? = some (.int .u64 v) → (part 22 #[.int .u64 a, .int .u64 b, .int .u64 c, .int .u64 d] i).run Tryd.prog w = .ok (.int .u64 v) w := fun _ a b c d i v w h => part22 _ i v h w
  have q0 := fun (a b c d : Int) (w : World) => q .nilIface a b c d (0 * 1) a w rfl
  have q1 := fun (a b c d : Int) (w : World) => q .nilIface a b c d (1 * 1) b w rfl
  have q2 := fun (a b c d : Int) (w : World) => q .nilIface a b c d (2 * 1) c w rfl
  have q3 := fun (a b c d : Int) (w : World) => q .nilIface a b c d (3 * 1) d w rfl
  clear q
  by_cases h0 : a = a'
  · by_cases h1 : b = b'
    · by_cases h2 : c = c'
      · by_cases h3 : d = d'
        · simp only [Op.eqItems, Sem.run_bind, q0, q1, q2, q3, e22, Result.andThen_ok, Sem.run_ite, Sem.run_pure]
          simp [h0, h1, h2, h3, same4]
        · simp only [Op.eqItems, Sem.run_bind, q0, q1, q2, q3, e22, Result.andThen_ok, Sem.run_ite, Sem.run_pure]
          simp [h0, h1, h2, h3, same4]
      · simp only [Op.eqItems, Sem.run_bind, q0, q1, q2, q3, e22, Result.andThen_ok, Sem.run_ite, Sem.run_pure]
        simp [h0, h1, h2, same4]
    · simp only [Op.eqItems, Sem.run_bind, q0, q1, q2, q3, e22, Result.andThen_ok, Sem.run_ite, Sem.run_pure]
      simp [h0, h1, same4]
  · simp only [Op.eqItems, Sem.run_bind, q0, q1, q2, q3, e22, Result.andThen_ok, Sem.run_ite, Sem.run_pure]
    simp [h0, same4]

@[go_sem] theorem eq27 (n : Nat) (a b c d a' b' c' d' : Int) (w : World) :
    (Op.equalIn (n + 1 + 1 + 1) 27 (.agg #[.int .u64 a, .int .u64 b, .int .u64 c, .int .u64 d]) (.agg #[.int .u64 a', .int .u64 b', .int .u64 c', .int .u64 d'])).run Tryd.prog w = .ok (same4 a b c d a' b' c' d') w := by
  go_simp
  cases same4 a b c d a' b' c' d' <;> rfl
end Go.Proofs.Qxb6609340aDoor
