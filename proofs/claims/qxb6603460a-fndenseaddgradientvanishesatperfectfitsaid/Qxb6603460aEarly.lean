import Derived.Test.Qxb6603460aWrap
namespace Go.Proofs.Qxb6603460a
open Go.ChangeShapes Go.WideShapes Go.ChangeAt Go.RowKit
set_option linter.unusedVariables false
/-- the total of no widths: no network -/
theorem total_none (w : World) (a : Option Addr) (n c lim : Nat) (hn : n = 0) :
    Calls Try.prog 9 #[.slice a n c, .int .i64 lim] w fun e w' => e = .returned (.tuple #[.int .i64 0, .bool false]) ∧ w' = w := by
  have h : n < 1 := by omega
  clear hn
  go_enter Try.func9, Try.ntmps9
  go_wp2
  go_ret2
  exact ⟨rfl, rfl⟩
set_option maxHeartbeats 4000000 in
set_option maxRecDepth 100000 in
theorem early (w : World) (a0 a1 a2 a3 : Option Addr) (l0 c0 l1 c1 l2 c2 l3 c3 : Nat) (h0 : l0 ≤ maxLen) (h1 : l1 ≤ maxLen) (h2 : l2 ≤ maxLen) (h3 : l3 ≤ maxLen)
    (bad : ¬ (l0 ≤ 131072 ∧ l1 ≤ 131072 ∧ l2 ≤ 131072 ∧ l3 ≤ 131072 ∧ 8 * (l0 + l1 + l2 + l3) ≤ 1048576 ∧ 1 ≤ l0)) :
    Calls Try.prog 7 #[.slice a0 l0 c0, .slice a1 l1 c1, .slice a2 l2 c2, .slice a3 l3 c3] w fun e w' => Good w e w' := by
  have BAD : Hid _ := bad
  clear bad
  have H0 : Hid _ := h0
  have H1 : Hid _ := h1
  have H2 : Hid _ := h2
  have H3 : Hid _ := h3
  unfold maxLen at h0 h1 h2 h3
  go_enter Try.func7, Try.ntmps7
  go_wp2_with fail
  refine (bytes_any _ _ _ _ _ _ _ _ _ _ _ _ _ H0.out H1.out H2.out H3.out).mono ?_
  rintro e w' ⟨r, rfl, rfl⟩
  cases r
  · go_wp2
    go_ret
    exact good (Below.refl _ _)
  go_wp2_with fail
  all_goals first
    | (go_ret; exact good (Below.refl _ _))
    | skip
  all_goals refine (total_none _ _ _ _ _ (Classical.byContradiction fun q => BAD.out ⟨by omega, by omega, by omega, by omega, by omega, by omega⟩)).mono ?_
  all_goals (rintro e w1 ⟨rfl, rfl⟩; go_wp2; go_ret; exact good (Below.refl _ _))
end Go.Proofs.Qxb6603460a
