import Derived.Test.Qxb6609265aRows
import Derived.WalkKit
import Derived.ProofKit
import Derived.Below
import Derived.WalkSpells
import Derived.Lib.Strings
import Derived.WalkLawsBesides
namespace Go.Proofs.Qxb6609265a
open Go.ChangeShapes Go.WideShapes Go.ChangeAt Go.RowKit
set_option linter.unusedVariables false

theorem bytes_any (a b : ByteArray) (w : World) (ha : a.size ≤ maxLen) (hb : b.size ≤ maxLen) :
    Calls Try.prog 5 #[.string a, .string b] w fun e w' => ∃ r, e = .returned (.bool r) ∧ w' = w ∧ (r = true → a.size + b.size ≤ 1048576) := by
  unfold maxLen at ha hb
  go_enter Try.func5, Try.ntmps5
  go_wp2
  all_goals (go_ret; first | exact ⟨false, rfl, rfl, fun h => absurd h (by decide)⟩ | exact ⟨true, rfl, rfl, fun _ => by omega⟩)

/-- zzHasSuffix, its answer. -/
def hasSuf (s suf : ByteArray) : Bool := decide (suf.size ≤ s.size) && ((s.extract (s.size - suf.size) s.size).toList == suf.toList)

theorem suffix_any (s suf : ByteArray) (w : World) (hs : s.size ≤ maxLen) (hf : suf.size ≤ maxLen) :
    Calls Try.prog 6 #[.string s, .string suf] w fun e w' => e = .returned (.bool (hasSuf s suf)) ∧ w' = w := by
  unfold maxLen at hs hf
  by_cases h : suf.size ≤ s.size
  · have hI : (suf.size : Int) ≤ (s.size : Int) := by omega
    go_enter Try.func6, Try.ntmps6
    go_wp2
    go_ret
    refine ⟨?_, rfl⟩
    show Ending.returned (.bool ((s.extract (s.size - suf.size) s.size).toList == suf.toList)) = _
    simp [hasSuf, h]
  · have hI : decide ((suf.size : Int) ≤ (s.size : Int)) = false := by simp; omega
    go_enter Try.func6, Try.ntmps6
    go_wp2
    go_ret
    refine ⟨?_, rfl⟩
    simp [hasSuf]
    omega

/-- The suffix '_growth'. -/
def G : ByteArray := ⟨#[95, 103, 114, 111, 119, 116, 104]⟩

theorem ext_list {s t : ByteArray} (h : s.data.toList = t.data.toList) : s = t := by
  obtain ⟨s⟩ := s
  obtain ⟨t⟩ := t
  rw [show s = t from Array.toList_inj.1 h]

theorem size_cat (t : ByteArray) : (t ++ G).size = t.size + 7 := by
  rw [ByteArray.size_append]; rfl

theorem data_cat (t : ByteArray) : (t ++ G).data.toList = t.data.toList ++ G.data.toList := by
  rw [ByteArray.data_append, Array.toList_append]

theorem size_list (t : ByteArray) : t.data.toList.length = t.size := rfl

theorem back_cat (t : ByteArray) : (t ++ G).extract 0 ((t ++ G).size - 7) = t := by
  rw [size_cat]
  apply ext_list
  rw [Lib.extract_data, data_cat, List.drop_zero, show t.size + 7 - 7 - 0 = t.data.toList.length from by rw [size_list]; omega, List.take_left]

theorem suf_cat (t : ByteArray) : hasSuf (t ++ G) G = true := by
  have h7 : G.size = 7 := rfl
  have he : (t ++ G).extract t.size (t.size + 7) = G := by
    apply ext_list
    rw [Lib.extract_data, data_cat, show t.size + 7 - t.size = G.data.toList.length from by rw [size_list, h7]; omega, ← size_list t, List.drop_left, List.take_length]
  unfold hasSuf
  rw [size_cat, h7, show t.size + 7 - 7 = t.size from by omega, he, decide_eq_true (by omega : 7 ≤ t.size + 7), beq_self_eq_true]
  rfl

theorem key_growth (m t : ByteArray) (w : World) (hm : (m.toList == [103, 114, 111, 119, 116, 104]) = true) (ht : t.size ≤ 1048576) :
    Calls Try.prog 7 #[.string m, .string t] w fun e w' => e = .returned (.string (t ++ G)) ∧ Grown w w' := by
  go_enter Try.func7, Try.ntmps7
  go_wp2
  go_ret
  exact ⟨rfl, Grown.alloc (Grown.refl _) _ _⟩
theorem key_other (m t : ByteArray) (w : World) (hm : (m.toList == [103, 114, 111, 119, 116, 104]) = false) (ht : t.size ≤ 1048576) :
    Calls Try.prog 7 #[.string m, .string t] w fun e w' => e = .returned (.string t) ∧ Grown w w' := by
  go_enter Try.func7, Try.ntmps7
  go_wp2
  go_ret
  exact ⟨rfl, Grown.alloc (Grown.refl _) _ _⟩

set_option maxHeartbeats 800000 in
theorem law (a0 a1 : ByteArray) (w0 : a0.size ≤ maxLen) (w1 : a1.size ≤ maxLen) (w : World) :
    Calls Try.prog 3 #[.string a0, .string a1] w fun e w' => e = .returned (.bool true) ∧ Grown w w' := by
  have hb := fun w => bytes_any a0 a1 w w0 w1
  have hs := fun w => suffix_any a1 G w w1 (by decide)
  unfold maxLen at w0 w1
  go_enter Try.func3, Try.ntmps3
  go_wp2_with fail
  refine (hb _).mono ?_
  rintro e w' ⟨r, rfl, rfl, hr⟩
  cases r
  · go_wp2
    go_ret
    exact ⟨rfl, Grown.refl _⟩
  have hsum := hr rfl
  clear hr
  go_wp2_with fail
  refine (hs _).mono ?_
  rintro e w' ⟨rfl, rfl⟩
  clear hb hs
  cases hsf : hasSuf a1 G
  · have HSF : Hid (hasSuf a1 G = false) := hsf
    clear hsf
    by_cases hm : (a0.toList == [103, 114, 111, 119, 116, 104]) = true
    · have hk := fun w => key_growth a0 a1 w hm (by omega)
      go_wp2_with fail
      refine (hk _).mono ?_
      rintro e w2 ⟨rfl, hb2⟩
      have hz := size_cat a1
      have hc := suf_cat a1
      have hbk := back_cat a1
      generalize a1 ++ G = k at *
      have hs2 := fun w => suffix_any k G w (by unfold maxLen; omega) (by decide)
      have HC : Hid (hasSuf k G = true) := hc
      have HBK : Hid (k.extract 0 (k.size - 7) = a1) := hbk
      have hk7 : 7 ≤ k.size := by omega
      have hkI : (k.size : Int) ≤ 1048583 := by omega
      clear hc hbk hk hz
      go_wp2_with fail
      refine (hs2 _).mono ?_
      rintro e w3 ⟨rfl, rfl⟩
      rw [HC.out]
      clear hs2
      have hbkL : (k.extract 0 (k.size - 7)).toList = a1.toList := by rw [HBK.out]
      go_wp2
      go_ret
      exact ⟨rfl, hb2⟩
    · have hm' : (a0.toList == [103, 114, 111, 119, 116, 104]) = false := by simpa using hm
      clear hm
      have hk := fun w => key_other a0 a1 w hm' (by omega)
      have hs2 := fun w => suffix_any a1 G w (by unfold maxLen; omega) (by decide)
      go_wp2_with fail
      refine (hk _).mono ?_
      rintro e w2 ⟨rfl, hb2⟩
      clear hk
      go_wp2_with fail
      refine (hs2 _).mono ?_
      rintro e w3 ⟨rfl, rfl⟩
      rw [HSF.out]
      clear hs2
      go_wp2
      go_ret
      exact ⟨rfl, hb2⟩
  · go_wp2
    go_ret
    exact ⟨rfl, Grown.refl _⟩
end Go.Proofs.Qxb6609265a
