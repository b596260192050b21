import Derived.Test.Qxb6609279aRows
import Derived.WalkKit
import Derived.ProofKit
import Derived.WalkSpells
import Derived.WalkLawsBesides
import Derived.Below
import Derived.Deep.Light
import Derived.Laws.Bits64b
import Derived.Laws.BitsAllLaws
namespace Go.Proofs.Qxb6609279a
open Go.ChangeShapes Go.WideShapes Go.ChangeAt Go.RowKit
set_option linter.unusedVariables false

theorem hide {p : Prop} (h : p) : Hid p := h

theorem and30 (x : Int) (h0 : 0 ≤ x) (h1 : x < 1073741824) : bits BinOp.and IntKind.u64 x 1073741823 = x := by
  have h := bits_and_u64_nat x.toNat 1073741823 (by omega) (by omega)
  rw [show (1073741823 : Nat) = 2 ^ 30 - 1 from rfl, Nat.and_two_pow_sub_one_eq_mod, Int.toNat_of_nonneg h0] at h
  have h2 : ((x.toNat % 2 ^ 30 : Nat) : Int) = x := by omega
  exact h.trans h2

theorem and63 (x : Int) (h0 : 0 ≤ x) (h1 : x < 1073741824) : bits BinOp.and IntKind.u64 x 9223372036854775808 = 0 := by
  have h := bits_and_u64_nat x.toNat 9223372036854775808 (by omega) (by omega)
  have e : x.toNat &&& 9223372036854775808 = 0 := by
    rw [show (9223372036854775808 : Nat) = 2 ^ 63 from rfl]
    apply Nat.eq_of_testBit_eq
    intro i
    rw [Nat.testBit_and, Nat.testBit_two_pow, Nat.zero_testBit]
    by_cases hi : 63 = i
    · subst hi
      rw [Nat.testBit_lt_two_pow (by omega)]
      rfl
    · rw [decide_eq_false hi, Bool.and_false]
  rw [e, Int.toNat_of_nonneg h0] at h
  exact h

theorem or0 (x : Int) (h0 : 0 ≤ x) (h1 : x < 1073741824) : bits BinOp.or IntKind.u64 0 x = x := by
  have h := u64_or 0 x (by omega) (by omega) h0 (by omega)
  rw [h]
  simp
  omega

theorem nsec_any (b : Nat) (x : Int) (w : World) (h0 : 0 ≤ x) (h1 : x < 1000000000) (hc : w.cell? ⟨b, 0, none⟩ = some (.int .u64 x)) :
    Calls Try.prog 18 #[.pointer (some ⟨b, 0, none⟩)] w fun e w' => e = .returned (.int .i32 x) ∧ w' = w := by
  have hb := and30 x h0 (by omega)
  go_enter Try.func18, Try.ntmps18
  go_wp2
  go_ret
  exact ⟨rfl, rfl⟩
theorem sec_any (b : Nat) (x y : Int) (w : World) (h0 : 0 ≤ x) (h1 : x < 1000000000) (hc : w.cell? ⟨b, 0, none⟩ = some (.int .u64 x)) (hc1 : w.cell? ⟨b, 1, none⟩ = some (.int .i64 y)) :
    Calls Try.prog 23 #[.pointer (some ⟨b, 0, none⟩)] w fun e w' => e = .returned (.int .i64 y) ∧ w' = w := by
  have hb : (bits BinOp.and IntKind.u64 x 9223372036854775808 != 0) = false := by rw [and63 x h0 (by omega)]; rfl
  go_enter Try.func23, Try.ntmps23
  go_wp2
  go_ret
  exact ⟨rfl, rfl⟩
theorem addSec_any (b : Nat) (x d : Int) (w : World) (h0 : 0 ≤ x) (h1 : x < 1000000000) (hd0 : -10000000000 ≤ d) (hd1 : d ≤ 10000000000) (hc : w.cell? ⟨b, 0, none⟩ = some (.int .u64 x)) (hc1 : w.cell? ⟨b, 1, none⟩ = some (.int .i64 0)) (hf : w.frozen? ⟨b, 1, none⟩ = false) :
    Calls Try.prog 19 #[.pointer (some ⟨b, 0, none⟩), .int .i64 d] w fun e w' => e = .returned (.tuple #[]) ∧ w' = w.setCell ⟨b, 1, none⟩ (.int .i64 d) := by
  have hb : (bits BinOp.and IntKind.u64 x 9223372036854775808 != 0) = false := by rw [and63 x h0 (by omega)]; rfl
  go_enter Try.func19, Try.ntmps19
  go_wp2
  go_end0
  exact ⟨rfl, rfl⟩

/-- The seconds and the nanoseconds of a duration, the nanoseconds not negative. -/
def secOf (d : Int) : Int := d / 1000000000
def nsOf (d : Int) : Int := d % 1000000000

theorem before_iff (d e : Int) : d < e ↔ (secOf d < secOf e ∨ (secOf d = secOf e ∧ nsOf d < nsOf e)) := by unfold secOf nsOf; omega

set_option maxHeartbeats 800000 in
/-- time.Time{}.Add(d) -/
theorem add_any (d : Int) (w : World) (hd0 : -9223372036854775808 ≤ d) (hd1 : d ≤ 9223372036854775807) :
    Calls Try.prog 13 #[.agg #[.int .u64 0, .int .i64 0, .pointer none], .int .i64 d] w fun e w' => e = .returned (.agg #[.int .u64 (nsOf d), .int .i64 (secOf d), .pointer none]) ∧ Below w.heap.size w w' := by
  have hsum : 1000000000 * d.tdiv 1000000000 + d.tmod 1000000000 = d := Int.mul_tdiv_add_tmod d 1000000000
  have hr1 : d.tmod 1000000000 < 1000000000 := Int.tmod_lt_of_pos d (by omega)
  have hr0 : -1000000000 < d.tmod 1000000000 := Int.lt_tmod_of_pos d (by omega)
  generalize hq : d.tdiv 1000000000 = q at hsum
  generalize hr : d.tmod 1000000000 = r at hsum hr1 hr0
  have hq1 : -9223372038 ≤ q := by omega
  have hq2 : q ≤ 9223372038 := by omega
  have hnot : bits BinOp.andNot IntKind.u64 0 1073741823 = 0 := by decide
  by_cases hneg : r < 0
  · have HS := hide (show secOf d = q - 1 ∧ nsOf d = r + 1000000000 from by unfold secOf nsOf; omega)
    have hor := or0 (r + 1000000000) (by omega) (by omega)
    have hmo : (bits BinOp.and IntKind.u64 (r + 1000000000) 9223372036854775808 != 0) = false := by rw [and63 (r + 1000000000) (by omega) (by omega)]; rfl
    clear hsum
    go_enter Try.func13, Try.ntmps13
    go_wp2_with fail
    refine (nsec_any _ 0 _ (by omega) (by omega) (by go_simp)).mono ?_
    rintro e w1 ⟨rfl, rfl⟩
    go_wp2_with fail
    refine (addSec_any _ (r + 1000000000) (q - 1) _ (by omega) (by omega) (by omega) (by omega) (by go_simp) (by go_simp) (by go_simp)).mono ?_
    rintro e w2 ⟨rfl, rfl⟩
    go_wp2
    refine bodyPost_ret (v := .agg #[.int .u64 (r + 1000000000), .int .i64 (q - 1), .pointer none]) (by simp [results, Try.results13, go_sem]) rfl ⟨by rw [HS.out.1, HS.out.2], ?_⟩
    exact ((Below.refl _ _).alloc (Nat.le_refl _) _).alloc (by simp) _
  · have HS := hide (show secOf d = q ∧ nsOf d = r from by unfold secOf nsOf; omega)
    have hor := or0 (r) (by omega) (by omega)
    have hmo : (bits BinOp.and IntKind.u64 (r) 9223372036854775808 != 0) = false := by rw [and63 (r) (by omega) (by omega)]; rfl
    clear hsum
    go_enter Try.func13, Try.ntmps13
    go_wp2_with fail
    refine (nsec_any _ 0 _ (by omega) (by omega) (by go_simp)).mono ?_
    rintro e w1 ⟨rfl, rfl⟩
    go_wp2_with fail
    refine (addSec_any _ (r) (q) _ (by omega) (by omega) (by omega) (by omega) (by go_simp) (by go_simp) (by go_simp)).mono ?_
    rintro e w2 ⟨rfl, rfl⟩
    go_wp2
    refine bodyPost_ret (v := .agg #[.int .u64 (r), .int .i64 (q), .pointer none]) (by simp [results, Try.results13, go_sem]) rfl ⟨by rw [HS.out.1, HS.out.2], ?_⟩
    exact ((Below.refl _ _).alloc (Nat.le_refl _) _).alloc (by simp) _

theorem and_small (x y : Int) (h0 : 0 ≤ x) (h1 : x < 1073741824) (g0 : 0 ≤ y) (g1 : y < 1073741824) : (bits BinOp.and IntKind.u64 (bits BinOp.and IntKind.u64 x y) 9223372036854775808 != 0) = false := by
  have h := bits_and_u64_nat x.toNat y.toNat (by omega) (by omega)
  rw [Int.toNat_of_nonneg h0, Int.toNat_of_nonneg g0] at h
  have hle : x.toNat &&& y.toNat ≤ x.toNat := Nat.and_le_left
  rw [and63 _ (by rw [h]; omega) (by rw [h]; omega)]
  rfl

set_option maxHeartbeats 800000 in
theorem before_core (x y s t : Int) (w : World) (h0 : 0 ≤ x) (h1 : x < 1000000000) (g0 : 0 ≤ y) (g1 : y < 1000000000) :
    Calls Try.prog 22 #[.agg #[.int .u64 x, .int .i64 s, .pointer none], .agg #[.int .u64 y, .int .i64 t, .pointer none]] w fun e w' => e = .returned (.bool (decide (s < t ∨ (s = t ∧ x < y)))) ∧ Below w.heap.size w w' := by
  have hmo := and_small x y h0 (by omega) g0 (by omega)
  have hbl := hide (fun (o1 o2 : Obj) => (((Below.refl w.heap.size w).alloc (Nat.le_refl _) o1).alloc (by simp) o2))
  rcases Int.lt_trichotomy s t with hs | hs | hs
  · have HD := hide (decide_eq_true (show s < t ∨ (s = t ∧ x < y) from .inl hs))
    go_enter Try.func22, Try.ntmps22
    go_wp2_with fail
    refine (sec_any _ x s _ h0 h1 (by go_simp) (by go_simp)).mono ?_
    rintro e w1 ⟨rfl, rfl⟩
    go_wp2_with fail
    refine (sec_any _ y t _ g0 g1 (by go_simp) (by go_simp)).mono ?_
    rintro e w2 ⟨rfl, rfl⟩
    go_wp2
    go_ret
    exact ⟨by rw [HD.out]; rfl, hbl.out _ _⟩
  · subst hs
    have HD := hide (show decide (s < s ∨ (s = s ∧ x < y)) = decide (x < y) from by simp)
    go_enter Try.func22, Try.ntmps22
    go_wp2_with fail
    refine (sec_any _ x s _ h0 h1 (by go_simp) (by go_simp)).mono ?_
    rintro e w1 ⟨rfl, rfl⟩
    go_wp2_with fail
    refine (sec_any _ y s _ g0 g1 (by go_simp) (by go_simp)).mono ?_
    rintro e w2 ⟨rfl, rfl⟩
    go_wp2_with fail
    refine (nsec_any _ x _ h0 h1 (by go_simp)).mono ?_
    rintro e w3 ⟨rfl, rfl⟩
    go_wp2_with fail
    refine (nsec_any _ y _ g0 g1 (by go_simp)).mono ?_
    rintro e w4 ⟨rfl, rfl⟩
    go_wp2
    go_ret
    exact ⟨by rw [HD.out]; rfl, hbl.out _ _⟩
  · have HD := hide (decide_eq_false (show ¬ (s < t ∨ (s = t ∧ x < y)) from by omega))
    have hne : (s == t) = false := by simp; omega
    have hdf : decide (s < t) = false := decide_eq_false (by omega)
    go_enter Try.func22, Try.ntmps22
    go_wp2_with fail
    refine (sec_any _ x s _ h0 h1 (by go_simp) (by go_simp)).mono ?_
    rintro e w1 ⟨rfl, rfl⟩
    go_wp2_with fail
    refine (sec_any _ y t _ g0 g1 (by go_simp) (by go_simp)).mono ?_
    rintro e w2 ⟨rfl, rfl⟩
    go_wp2
    go_ret
    exact ⟨by rw [HD.out]; rfl, hbl.out _ _⟩

theorem before_any (d e : Int) (w : World) :
    Calls Try.prog 22 #[.agg #[.int .u64 (nsOf d), .int .i64 (secOf d), .pointer none], .agg #[.int .u64 (nsOf e), .int .i64 (secOf e), .pointer none]] w fun r w' => r = .returned (.bool (decide (d < e))) ∧ Below w.heap.size w w' := by
  have h := before_core (nsOf d) (nsOf e) (secOf d) (secOf e) w (by unfold nsOf; omega) (by unfold nsOf; omega) (by unfold nsOf; omega) (by unfold nsOf; omega)
  rw [decide_eq_decide.2 (before_iff d e).symm] at h
  exact h
end Go.Proofs.Qxb6609279a
