import Derived.Test.Qxb6609340aDoorRows
import Derived.WalkKit
import Derived.ProofKit
import Derived.Below
namespace Go.Proofs.Qxb6609340aDoor
open Go.ChangeShapes Go.WideShapes Go.ChangeAt Go.RowKit
set_option linter.unusedVariables false

theorem hide {p : Prop} (h : p) : Hid p := h

/-- An id: four words, the greatest first. -/
structure Id where
  a : Int
  b : Int
  c : Int
  d : Int
deriving DecidableEq

def U (n : Int) : Prop := 0 ≤ n ∧ n ≤ 18446744073709551615
def Id.wf (x : Id) : Prop := U x.a ∧ U x.b ∧ U x.c ∧ U x.d
def Id.val (x : Id) : Int := 6277101735386680763835789423207666416102355444464034512896 * x.a + 340282366920938463463374607431768211456 * x.b + 18446744073709551616 * x.c + x.d
def zero : Id := ⟨0, 0, 0, 0⟩
def lim (x : Id) : Nat → Int
  | 0 => x.a
  | 1 => x.b
  | 2 => x.c
  | _ => x.d

abbrev idV (x : Id) : Value := .agg #[.int .u64 x.a, .int .u64 x.b, .int .u64 x.c, .int .u64 x.d]

theorem val_inj {x y : Id} (hx : x.wf) (hy : y.wf) (h : x.val = y.val) : x = y := by
  obtain ⟨a, b, c, d⟩ := x
  obtain ⟨a', b', c', d'⟩ := y
  simp only [Id.wf, U, Id.val] at *
  have h1 : a = a' := by omega
  have h2 : b = b' := by omega
  have h3 : c = c' := by omega
  have h4 : d = d' := by omega
  rw [h1, h2, h3, h4]

/-- k is the first place at which x and y differ. -/
def Differ (x y : Id) (k : Nat) : Prop := k < 4 ∧ (∀ j, j < k → lim x j = lim y j) ∧ lim x k ≠ lim y k

theorem less_of_differ {x y : Id} (hx : x.wf) (hy : y.wf) {k : Nat} (h : Differ x y k) : lim x k < lim y k ↔ x.val < y.val := by
  obtain ⟨h1, h2, h3⟩ := h
  obtain ⟨a, b, c, d⟩ := x
  obtain ⟨a', b', c', d'⟩ := y
  simp only [Id.wf, U, Id.val] at *
  match k, h1 with
  | 0, _ => simp only [lim] at *; omega
  | 1, _ =>
    have e0 := h2 0 (by omega)
    simp only [lim] at *
    omega
  | 2, _ =>
    have e0 := h2 0 (by omega)
    have e1 := h2 1 (by omega)
    simp only [lim] at *
    omega
  | 3, _ =>
    have e0 := h2 0 (by omega)
    have e1 := h2 1 (by omega)
    have e2 := h2 2 (by omega)
    simp only [lim] at *
    omega

theorem eq_of_same {x y : Id} (h : ∀ j, j < 4 → lim x j = lim y j) : x = y := by
  obtain ⟨a, b, c, d⟩ := x
  obtain ⟨a', b', c', d'⟩ := y
  have e0 := h 0 (by omega)
  have e1 := h 1 (by omega)
  have e2 := h 2 (by omega)
  have e3 := h 3 (by omega)
  simp only [lim] at e0 e1 e2 e3
  rw [e0, e1, e2, e3]

/-- InOpen, as id.go reckons it. -/
def InOpen (x a b : Id) : Prop := if a.val < b.val then a.val < x.val ∧ x.val < b.val else a.val < x.val ∨ x.val < b.val
instance (x a b : Id) : Decidable (InOpen x a b) := by unfold InOpen; infer_instance

def N : Int := 115792089237316195423570985008687907853269984665640564039457584007913129639936

/-- d is x - y modulo 2^256. -/
def IsSub (x y d : Id) : Prop := d.wf ∧ (d.val = x.val - y.val ∨ d.val = x.val - y.val + N)

theorem val_range {x : Id} (h : x.wf) : 0 ≤ x.val ∧ x.val < N := by
  simp only [Id.wf, U, Id.val, N] at *
  omega

theorem zero_val {x : Id} (h : x.wf) : x = zero ↔ x.val = 0 := by
  constructor
  · rintro rfl; rfl
  · intro e
    exact val_inj h (by simp only [zero, Id.wf, U]; omega) e

/-- InOpen, as the law measures it. -/
theorem inOpen_dist {x a b dx db : Id} (hx : x.wf) (ha : a.wf) (hb : b.wf) (h1 : IsSub x a dx) (h2 : IsSub b a db) : InOpen x a b ↔ (dx ≠ zero ∧ (db = zero ∨ dx.val < db.val)) := by
  have r1 := val_range hx
  have r2 := val_range ha
  have r3 := val_range hb
  have r4 := val_range h1.1
  have r5 := val_range h2.1
  rw [Ne, zero_val h1.1, zero_val h2.1]
  obtain ⟨_, h1⟩ := h1
  obtain ⟨_, h2⟩ := h2
  unfold InOpen
  generalize x.val = X at *
  generalize dx.val = DX at *
  generalize db.val = DB at *
  generalize a.val = A at *
  generalize b.val = B at *
  unfold N at *
  split <;> omega
end Go.Proofs.Qxb6609340aDoor
