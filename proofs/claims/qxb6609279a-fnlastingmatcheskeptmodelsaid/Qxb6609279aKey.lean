import Derived.Test.Qxb6609279aTime
import Derived.Maps.Own
import Derived.Lib.Strings
namespace Go.Proofs.Qxb6609279a
open Go.ChangeShapes Go.WideShapes Go.ChangeAt Go.RowKit
set_option linter.unusedVariables false

/-! ### Plain: strings, kinds, keys -/
def IMG : ByteArray := ⟨#[73, 109, 97, 103, 101]⟩
def REG : ByteArray := ⟨#[82, 101, 103, 105, 115, 116, 114, 121]⟩
def GLB : ByteArray := ⟨#[71, 108, 111, 98, 97, 108]⟩
def NIL : ByteArray := ⟨#[]⟩

theorem bytes_eq {s t : ByteArray} (h : s.toList = t.toList) : s = t := by
  rw [Lib.toList_data, Lib.toList_data] at h
  obtain ⟨s⟩ := s
  obtain ⟨t⟩ := t
  rw [show s = t from Array.toList_inj.1 h]

theorem beq_bytes (s t : ByteArray) : (s.toList == t.toList) = decide (s = t) := by
  by_cases h : s = t
  · subst h; simp
  · rw [decide_eq_false h]
    exact beq_eq_false_iff_ne.2 (fun e => h (bytes_eq e))

/-- The host and the path that a key of kind kt bears. -/
def hOf (kt h : ByteArray) : ByteArray := if kt = IMG ∨ kt = REG then h else NIL
def pOf (kt p : ByteArray) : ByteArray := if kt = IMG then p else NIL

def keyV (kt h p ac : ByteArray) : Value := .agg #[.string kt, .string (hOf kt h), .string (pOf kt p), .string ac]

theorem IMG_list : IMG.toList = [73, 109, 97, 103, 101] := by rw [Lib.toList_data]; rfl
theorem REG_list : REG.toList = [82, 101, 103, 105, 115, 116, 114, 121] := by rw [Lib.toList_data]; rfl
theorem GLB_list : GLB.toList = [71, 108, 111, 98, 97, 108] := by rw [Lib.toList_data]; rfl

set_option maxHeartbeats 800000 in
theorem cacheKey_any (kt h p ac : ByteArray) (w : World) :
    Calls Try.prog 21 #[.string kt, .agg #[.string h, .string p], .string ac] w fun e w' => e = .returned (keyV kt h p ac) ∧ Below w.heap.size w w' := by
  have hbl := hide (fun (o1 o2 : Obj) => (((Below.refl w.heap.size w).alloc (Nat.le_refl _) o1).alloc (by simp) o2))
  by_cases h1 : kt = IMG
  · have t1 : (kt.toList == [73, 109, 97, 103, 101]) = true := by rw [← IMG_list, beq_bytes]; simpa using h1
    have HK := hide (show keyV kt h p ac = .agg #[.string kt, .string h, .string p, .string ac] from by simp [keyV, hOf, pOf, h1])
    clear h1
    go_enter Try.func21, Try.ntmps21
    go_wp2
    rw [HK.out]
    refine bodyPost_ret (v := .agg #[.string kt, .string h, .string p, .string ac]) (by simp [results, Try.results21, go_sem]) rfl ⟨rfl, ?_⟩
    exact hbl.out _ _
  · have t1 : (kt.toList == [73, 109, 97, 103, 101]) = false := by rw [← IMG_list, beq_bytes]; simpa using h1
    by_cases h2 : kt = REG
    · have t2 : (kt.toList == [82, 101, 103, 105, 115, 116, 114, 121]) = true := by rw [← REG_list, beq_bytes]; simpa using h2
      have HK := hide (show keyV kt h p ac = .agg #[.string kt, .string h, .string ⟨#[]⟩, .string ac] from by unfold keyV hOf pOf; rw [if_pos (Or.inr h2), if_neg h1]; rfl)
      clear h1 h2
      go_enter Try.func21, Try.ntmps21
      go_wp2
      rw [HK.out]
      refine bodyPost_ret (v := .agg #[.string kt, .string h, .string ⟨#[]⟩, .string ac]) (by simp [results, Try.results21, go_sem]) rfl ⟨rfl, ?_⟩
      exact hbl.out _ _
    · have t2 : (kt.toList == [82, 101, 103, 105, 115, 116, 114, 121]) = false := by rw [← REG_list, beq_bytes]; simpa using h2
      have HK := hide (show keyV kt h p ac = .agg #[.string kt, .string ⟨#[]⟩, .string ⟨#[]⟩, .string ac] from by simp [keyV, hOf, pOf, h1, h2, NIL])
      clear h1 h2
      go_enter Try.func21, Try.ntmps21
      go_wp2
      rw [HK.out]
      refine bodyPost_ret (v := .agg #[.string kt, .string ⟨#[]⟩, .string ⟨#[]⟩, .string ac]) (by simp [results, Try.results21, go_sem]) rfl ⟨rfl, ?_⟩
      exact hbl.out _ _
end Go.Proofs.Qxb6609279a
