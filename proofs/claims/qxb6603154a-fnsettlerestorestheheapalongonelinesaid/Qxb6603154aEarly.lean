import Derived.Test.Qxb6603154aTests
import Derived.Test.Qxb6603154aChecks
namespace Go.Proofs.Qxb6603154a
open Go.ChangeShapes Go.WideShapes Go.ChangeAt Go.RowKit
set_option linter.unusedVariables false

/-- some Bool comes back, nothing turns -/
def Any (w : World) (e : Ending) (w' : World) : Prop := ∃ r : Bool, e = .returned (.bool r) ∧ w' = w
set_option maxHeartbeats 1000000 in
theorem bytes_any (w : World) (a0 a1 a2 a3 : Option Addr) (l0 c0 l1 c1 l2 c2 l3 c3 : Nat) (s : Int) (h0 : l0 ≤ maxLen) (h1 : l1 ≤ maxLen) (h2 : l2 ≤ maxLen) (h3 : l3 ≤ maxLen) :
    Calls Try.prog 5 #[.slice a0 l0 c0, .slice a1 l1 c1, .slice a2 l2 c2, .slice a3 l3 c3, .int .i64 s] w fun e w' => Any w e w' := by
  unfold maxLen at h0 h1 h2 h3
  go_enter Try.func5, Try.ntmps5
  go_wp2
  all_goals (go_ret; exact ⟨_, rfl, rfl⟩)

set_option maxHeartbeats 4000000 in
set_option maxRecDepth 100000 in
theorem early (w : World) (a0 a1 a2 a3 : Option Addr) (l0 c0 l1 c1 l2 c2 l3 c3 : Nat) (s : Int) (h0 : l0 ≤ maxLen) (h1 : l1 ≤ maxLen) (h2 : l2 ≤ maxLen) (h3 : l3 ≤ maxLen)
    (bad : ¬ (l0 ≤ 65536 ∧ l1 ≤ 65536 ∧ l2 ≤ 65536 ∧ l3 ≤ 65536 ∧ 8 * l0 + 4 * l1 + 4 * l2 + 4 * l3 ≤ 1048576 ∧ l1 = l0 ∧ l3 = l2 ∧ 0 ≤ s ∧ s < l0)) :
    Calls Try.prog 3 #[.slice a0 l0 c0, .slice a1 l1 c1, .slice a2 l2 c2, .slice a3 l3 c3, .int .i64 s] w fun e w' => e = .returned (.bool true) ∧ w' = w := by
  have BAD : Hid _ := bad
  clear bad
  have H0 : Hid _ := h0
  have H1 : Hid _ := h1
  have H2 : Hid _ := h2
  have H3 : Hid _ := h3
  unfold maxLen at h0 h1 h2 h3
  go_enter Try.func3, Try.ntmps3
  go_wp2_with (go_at_call 5; refine (bytes_any _ _ _ _ _ _ _ _ _ _ _ _ _ _ H0.out H1.out H2.out H3.out).mono ?_; rintro e w' ⟨r, rfl, rfl⟩; cases r)
  all_goals first
    | (go_ret; exact ⟨rfl, rfl⟩)
    | exact absurd ⟨by omega, by omega, by omega, by omega, by omega, by omega, by omega, by omega, by omega⟩ BAD.out
end Go.Proofs.Qxb6603154a
