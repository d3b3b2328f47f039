import Derived.Test.Qxb6603460aFloat
import Derived.Laws.Small
/-! The dense network, plainly: where its layers lie, what its levels are. A level's value is 'some bits', or none: some NaN. -/
namespace Go.Proofs.Qxb6603460a
open Ieee
set_option linter.unusedVariables false

/-! ### the runs of the float operations -/
theorem nan_of (m : Nat) (h1 : 9218868437227405312 < m % 9223372036854775808) : IsNan m := by
  have e := read_def m
  rw [if_neg (by omega), if_neg (by omega), if_neg (by omega)] at e
  exact ⟨_, _, e⟩
theorem cut_arith (t : Nat) : 9218868437227405312 < ((t % 2) * 2 ^ 63 + 0x7ff0000000000000 + 1 + (t / 2) % (2 ^ 52 - 1)) % 9223372036854775808 := by
  have h : (t / 2) % (2 ^ 52 - 1) < 4503599627370495 := Nat.mod_lt _ (by decide)
  generalize (t / 2) % (2 ^ 52 - 1) = v at h ⊢
  have h2 : t % 2 = 0 ∨ t % 2 = 1 := by omega
  rcases h2 with e | e <;> rw [e] <;> omega
theorem cut_nan (x y t : Nat) : IsNan ((Question.nanBits .f64 x y).cut t) := by
  refine nan_of _ ?_
  exact cut_arith t
theorem cut_nan2 (b : Bool) (x y t : Nat) : IsNan ((Question.nanMinMax .f64 b x y).cut t) := by
  refine nan_of _ ?_
  exact cut_arith t
theorem run_fadd (P : Program) (t : TypeId) (x y : Nat) (w : World) : ∃ r k, (binOp .add t (.float .f64 x) (.float .f64 y)).run P w = .ok (.float .f64 r) (w.drewN k) ∧ Res (double.add x y) r := by
  have e : FloatKind.f64.format = double := rfl
  cases h : double.add x y with
  | some r => exact ⟨r, 0, by simp [binOp, Op.floatArith, e, h, World.drewN_zero], rfl⟩
  | none => exact ⟨_, 1, by simp [binOp, Op.floatArith, e, h, Question.forced, World.drew_is_drewN]; rfl, cut_nan x y _⟩
theorem run_fsub (P : Program) (t : TypeId) (x y : Nat) (w : World) : ∃ r k, (binOp .sub t (.float .f64 x) (.float .f64 y)).run P w = .ok (.float .f64 r) (w.drewN k) ∧ Res (double.sub x y) r := by
  have e : FloatKind.f64.format = double := rfl
  cases h : double.sub x y with
  | some r => exact ⟨r, 0, by simp [binOp, Op.floatArith, e, h, World.drewN_zero], rfl⟩
  | none => exact ⟨_, 1, by simp [binOp, Op.floatArith, e, h, Question.forced, World.drew_is_drewN]; rfl, cut_nan x y _⟩
theorem run_fmul (P : Program) (t : TypeId) (x y : Nat) (w : World) : ∃ r k, (binOp .mul t (.float .f64 x) (.float .f64 y)).run P w = .ok (.float .f64 r) (w.drewN k) ∧ Res (double.mul x y) r := by
  have e : FloatKind.f64.format = double := rfl
  cases h : double.mul x y with
  | some r => exact ⟨r, 0, by simp [binOp, Op.floatArith, e, h, World.drewN_zero], rfl⟩
  | none => exact ⟨_, 1, by simp [binOp, Op.floatArith, e, h, Question.forced, World.drew_is_drewN]; rfl, cut_nan x y _⟩
/-- max(x, 0) -/
def maxZ (x : Nat) : Option Nat := match double.order x 0 with
  | none => none
  | some .lt => some 0
  | some .gt => some x
  | some .eq => some (if (double.read x).neg then 0 else x)
theorem run_fmax (P : Program) (ts : Array TypeId) (ty : TypeId) (x : Nat) (w : World) : ∃ r k, (Builtin.max_ ts ty #[.float .f64 x, .float .f64 0]).run P w = .ok (.float .f64 r) (w.drewN k) ∧ Res (maxZ x) r := by
  have e : FloatKind.f64.format = double := rfl
  have d : FloatKind.f64.decode x = double.read x := rfl
  unfold maxZ
  cases h : double.order x 0 with
  | none => exact ⟨(Question.nanMinMax .f64 true x 0).cut (w.tape w.drawn (.nanMinMax .f64 true x 0)), 1, by simp [Builtin.max_, Builtin.max2, e, h, Question.forced, World.drew_is_drewN], cut_nan2 true x 0 _⟩
  | some o =>
    cases o with
    | lt => exact ⟨0, 0, by simp [Builtin.max_, Builtin.max2, e, h, World.drewN_zero], rfl⟩
    | gt => exact ⟨x, 0, by simp [Builtin.max_, Builtin.max2, e, h, World.drewN_zero], rfl⟩
    | eq => exact ⟨if (double.read x).neg then 0 else x, 0, by simp [Builtin.max_, Builtin.max2, e, h, World.drewN_zero, d], rfl⟩

/-! ### values that may be a NaN -/
def addO (a b : Option Nat) : Option Nat := match a, b with
  | some x, some y => double.add x y
  | _, _ => none
def mulO (a b : Option Nat) : Option Nat := match a, b with
  | some x, some y => double.mul x y
  | _, _ => none
def maxO (a : Option Nat) : Option Nat := match a with
  | some x => maxZ x
  | none => none
theorem Res.add {o1 o2 : Option Nat} {x y r : Nat} (h1 : Res o1 x) (h2 : Res o2 y) (h : Res (double.add x y) r) : Res (addO o1 o2) r := by
  cases o1 with
  | none => rw [nan_add h1] at h; exact h
  | some a =>
    have e1 : x = a := h1
    subst e1
    cases o2 with
    | none => rw [add_nan h2] at h; exact h
    | some b =>
      have e2 : y = b := h2
      subst e2
      exact h
theorem Res.mul {o1 o2 : Option Nat} {x y r : Nat} (h1 : Res o1 x) (h2 : Res o2 y) (h : Res (double.mul x y) r) : Res (mulO o1 o2) r := by
  cases o1 with
  | none => rw [nan_mul h1] at h; exact h
  | some a =>
    have e1 : x = a := h1
    subst e1
    cases o2 with
    | none => rw [mul_nan h2] at h; exact h
    | some b =>
      have e2 : y = b := h2
      subst e2
      exact h
theorem Res.max {o : Option Nat} {x r : Nat} (h1 : Res o x) (h : Res (maxZ x) r) : Res (maxO o) r := by
  cases o with
  | none =>
    have : maxZ x = none := by unfold maxZ; rw [nan_order h1]
    rw [this] at h
    exact h
  | some a =>
    have e1 : x = a := h1
    subst e1
    exact h
theorem Res.num {o : Option Nat} {x y : Nat} (h1 : Res o x) (hx : IsNum x) (h2 : Res o y) : y = x := by
  cases o with
  | none => exact absurd h1 (num_not_nan hx)
  | some a =>
    have e1 : x = a := h1
    have e2 : y = a := h2
    rw [e1, e2]

/-! ### where the layers lie -/
/-- where layer l begins (l from 1) -/
def offN (W : Nat → Nat) : Nat → Nat
  | 0 => 0
  | 1 => 0
  | l + 2 => offN W (l + 1) + W (l + 1) * (W l + 1)
theorem offN_succ (W : Nat → Nat) (l : Nat) (h : 1 ≤ l) : offN W (l + 1) = offN W l + W l * (W (l - 1) + 1) := by
  obtain ⟨k, rfl⟩ : ∃ k, l = k + 1 := ⟨l - 1, by omega⟩
  rfl
theorem offN_mono (W : Nat → Nat) (k l : Nat) (h : k ≤ l) (h1 : 1 ≤ k) : offN W k ≤ offN W l := by
  induction l with
  | zero => omega
  | succ l ih =>
    by_cases e : k = l + 1
    · rw [e]; exact Nat.le_refl _
    · have := ih (by omega)
      rw [offN_succ W l (by omega)]
      omega

/-! ### the levels -/
def sumTo (wt : Nat → Nat) (a : Nat → Option Nat) (b0 : Nat) : Nat → Option Nat
  | 0 => some b0
  | j + 1 => addO (sumTo wt a b0 j) (mulO (some (wt j)) (a j))
def fin_ (last l : Nat) (o : Option Nat) : Option Nat := if l < last then maxO o else o
def lev (last : Nat) (W Pm X : Nat → Nat) : Nat → Nat → Option Nat
  | 0 => fun j => some (X j)
  | l + 1 => fun i => fin_ last (l + 1) (sumTo (fun j => Pm (offN W (l + 1) + i * W l + j)) (lev last W Pm X l) (Pm (offN W (l + 1) + W (l + 1) * W l + i)) (W l))
end Go.Proofs.Qxb6603460a
