import Derived.Test.Qxb6612563aWalkE
import Derived.Laws.CopyOwn
import Derived.WalkSpells
namespace Go.Proofs.Qxb6612563a
open Go.ChangeShapes Go.WideShapes Go.ChangeAt Go.RowKit
set_option linter.unusedVariables false

set_option maxHeartbeats 1600000 in
theorem law_early (last c : Int) (a1 a2 a3 a4 : Option Addr) (n1 n2 n3 n4 c1 c2 c3 c4 : Nat) (w : World) (h1 : n1 ≤ maxLen) (h2 : n2 ≤ maxLen) (h3 : n3 ≤ maxLen) (h4 : n4 ≤ maxLen)
    (bad : ¬ (n1 ≤ 1024 ∧ n3 ≤ 1024 ∧ n2 = n1 ∧ n4 = n3 ∧ 0 ≤ c ∧ c ≤ n3)) :
    Calls Try.prog 3 #[.int .i64 last, .slice a1 n1 c1, .slice a2 n2 c2, .slice a3 n3 c3, .slice a4 n4 c4, .int .i64 c] w fun e w' => e = .returned (.bool true) ∧ w' = w := by
  have hb := fun w => bytes_any last c a1 a2 a3 a4 n1 n2 n3 n4 c1 c2 c3 c4 w h1 h2 h3 h4
  unfold maxLen at h1 h2 h3 h4
  have HB := hb
  clear hb
  have key : 1024 < n1 ∨ (n1 ≤ 1024 ∧ 1024 < n2) ∨ (n1 ≤ 1024 ∧ n2 ≤ 1024 ∧ 1024 < n3) ∨ (n1 ≤ 1024 ∧ n2 ≤ 1024 ∧ n3 ≤ 1024 ∧ 1024 < n4) ∨ (n1 ≤ 1024 ∧ n2 ≤ 1024 ∧ n3 ≤ 1024 ∧ n4 ≤ 1024 ∧ n2 ≠ n1) ∨ (n1 ≤ 1024 ∧ n2 ≤ 1024 ∧ n3 ≤ 1024 ∧ n4 ≤ 1024 ∧ n2 = n1 ∧ n4 ≠ n3) ∨ (n1 ≤ 1024 ∧ n3 ≤ 1024 ∧ n2 = n1 ∧ n4 = n3 ∧ c < 0) ∨ (n1 ≤ 1024 ∧ n3 ≤ 1024 ∧ n2 = n1 ∧ n4 = n3 ∧ 0 ≤ c ∧ n3 < c) := by omega
  rcases key with k1 | ⟨k1, k2⟩ | ⟨k1, k2, k3⟩ | ⟨k1, k2, k3, k4⟩ | ⟨k1, k2, k3, k4, k5⟩ | ⟨k1, k2, k3, k4, rfl, k6⟩ | ⟨k1, k3, rfl, rfl, k5⟩ | ⟨k1, k3, rfl, rfl, k5, k6⟩
  all_goals
    clear bad
    go_enter Try.func3, Try.ntmps3
    go_wp2_with fail
    refine (HB _).mono ?_
    rintro e w' ⟨r, rfl, rfl⟩
    clear HB
    cases r
    · go_wp2
      go_ret
      exact ⟨rfl, rfl⟩
    · go_wp2
      all_goals (go_ret; exact ⟨rfl, rfl⟩)
end Go.Proofs.Qxb6612563a
