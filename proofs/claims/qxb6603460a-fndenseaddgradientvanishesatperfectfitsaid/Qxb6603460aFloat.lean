import Derived.Laws.FloatArith
import Derived.Laws.NewFold
import Derived.Deep.Draws
/-! Floats: what the law leans on. No Go text in sight. -/
namespace Go.Proofs.Qxb6603460a
open Ieee
set_option linter.unusedVariables false

/-- a is a finite number -/
def IsNum (a : Nat) : Prop := ∃ s m i, double.read a = .number s m i
/-- a is no number at all -/
def IsNan (a : Nat) : Prop := ∃ s t, double.read a = .nan s t
def IsZero (z : Nat) : Prop := z = 0 ∨ z = 9223372036854775808
theorem sw : double.signWeight = 9223372036854775808 := by decide
theorem bn : double.binade = 4503599627370496 := by decide
theorem ir : double.infRung = 9218868437227405312 := by decide
theorem lp : double.leastPlace = -1074 := by decide
theorem fb : double.fractionBits = 52 := rfl

theorem read_def (a : Nat) : double.read a = if a % 9223372036854775808 < 4503599627370496 then Datum.number (a / 9223372036854775808 % 2 == 1) (a % 9223372036854775808) (-1074)
    else if a % 9223372036854775808 < 9218868437227405312 then Datum.number (a / 9223372036854775808 % 2 == 1) (4503599627370496 + a % 9223372036854775808 % 4503599627370496) (-1074 + ((a % 9223372036854775808 / 4503599627370496 - 1 : Nat) : Int))
    else if a % 9223372036854775808 = 9218868437227405312 then Datum.infinity (a / 9223372036854775808 % 2 == 1) else Datum.nan (a / 9223372036854775808 % 2 == 1) (a % 9223372036854775808 - 9218868437227405312) := by
  simp only [Format.read, sw, bn, ir, lp]
theorem read_word (s : Bool) (r : Nat) (h : r < 9223372036854775808) : (double.word s r) % 9223372036854775808 = r ∧ ((double.word s r) / 9223372036854775808 % 2 == 1) = s := by
  unfold Format.word
  rw [sw]
  cases s
  · simp only [Bool.false_eq_true, if_false]
    refine ⟨Nat.mod_eq_of_lt h, ?_⟩
    rw [Nat.div_eq_of_lt h]
    rfl
  · simp only [if_true]
    refine ⟨by omega, ?_⟩
    have : (9223372036854775808 + r) / 9223372036854775808 = 1 := by omega
    rw [this]
    rfl
theorem read_zero : double.read 0 = .number false 0 (-1074) := by decide
theorem read_nzero : double.read 9223372036854775808 = .number true 0 (-1074) := by decide
theorem zero_read {z : Nat} (h : IsZero z) : ∃ t, double.read z = .number t 0 (-1074) := by
  rcases h with rfl | rfl
  · exact ⟨_, read_zero⟩
  · exact ⟨_, read_nzero⟩
theorem write_zero (s : Bool) (i : Int) : IsZero (double.write (.number s 0 i)) := by
  cases s
  · exact .inl (by simp [Format.write, Format.nearest, Format.word])
  · exact .inr (by simp [Format.write, Format.nearest, Format.word, sw])
theorem write_pzero (i : Int) : double.write (.number false 0 i) = 0 := by simp [Format.write, Format.nearest, Format.word]

theorem sub_self {v : Nat} (h : IsNum v) : double.sub v v = some 0 := by
  obtain ⟨s, m, i, e⟩ := h
  unfold Format.sub
  rw [e]
  have : (Datum.number s m i).sum (Datum.number s m i).opposite = some (.number false 0 i) := by
    simp only [Datum.opposite, Datum.sum, Int.min_self, Int.sub_self, Int.toNat_zero]
    cases s <;> simp [signed] <;> omega
  rw [this]
  simp [write_pzero]
theorem mul_zero_l {v : Nat} (h : IsNum v) : ∃ z, double.mul 0 v = some z ∧ IsZero z := by
  obtain ⟨s, m, i, e⟩ := h
  unfold Format.mul
  rw [e, read_zero]
  simp only [Datum.product, Nat.zero_mul, Option.map_some]
  exact ⟨_, rfl, write_zero _ _⟩
theorem mul_zero_r {v : Nat} (h : IsNum v) : ∃ z, double.mul v 0 = some z ∧ IsZero z := by
  obtain ⟨s, m, i, e⟩ := h
  unfold Format.mul
  rw [e, read_zero]
  simp only [Datum.product, Nat.mul_zero, Option.map_some]
  exact ⟨_, rfl, write_zero _ _⟩
theorem add_zero_zero {z : Nat} (h : IsZero z) : double.add 0 z = some 0 := by
  rcases h with rfl | rfl <;> decide

/-! ### a number and a zero -/
theorem log2_shift (m k : Nat) (h : m ≠ 0) : (m <<< k).log2 = m.log2 + k := by
  rw [Nat.shiftLeft_eq]
  have h1 : 2 ^ m.log2 ≤ m := Nat.log2_self_le h
  have h2 : m < 2 ^ (m.log2 + 1) := Nat.lt_log2_self
  have hp : 0 < 2 ^ k := Nat.pow_pos (by omega)
  refine (Nat.log2_eq_iff (Nat.mul_ne_zero h (by omega))).2 ⟨?_, ?_⟩
  · rw [Nat.pow_add]; exact Nat.mul_le_mul_right _ h1
  · rw [show m.log2 + k + 1 = (m.log2 + 1) + k from by omega, Nat.pow_add]; exact (Nat.mul_lt_mul_right hp).2 h2
theorem cut_exact (s : Bool) (m k : Nat) (h : m ≠ 0) : Toward.even.cut s (m <<< k) k = m := by
  unfold Toward.cut
  have e : min k ((m <<< k).log2 + 2) = k := by rw [log2_shift m k h]; omega
  have hp : 0 < 2 ^ k := Nat.pow_pos (by omega)
  have g : 1 <<< k = 2 ^ k := by rw [Nat.shiftLeft_eq]; omega
  simp only [e, g]
  rw [Nat.shiftLeft_eq, Nat.mul_div_cancel _ hp, Nat.mul_mod_left]
  simp
/-- a word's own number, written at a lower place, comes back -/
theorem near_back {a : Nat} {s : Bool} {m : Nat} {i : Int} (e : double.read a = .number s m i) (hm : m ≠ 0) :
    -1074 ≤ i ∧ double.read (double.nearest s (m <<< (i - (-1074)).toNat) (-1074)) = .number s m i := by
  rw [read_def] at e
  have key : ∀ r, r < 9218868437227405312 → double.nearest s (m <<< (i - (-1074)).toNat) (-1074) = double.word s r → double.read (double.word s r) = .number s m i → double.read (double.nearest s (m <<< (i - (-1074)).toNat) (-1074)) = .number s m i := by
    intro r _ h1 h2
    rw [h1]; exact h2
  by_cases c1 : a % 9223372036854775808 < 4503599627370496
  · rw [if_pos c1] at e
    obtain ⟨e1, e2, e3⟩ : (a / 9223372036854775808 % 2 == 1) = s ∧ a % 9223372036854775808 = m ∧ (-1074 : Int) = i := by simpa using e
    subst e3
    refine ⟨by omega, key m (by omega) ?_ ?_⟩
    · have l : m.log2 < 52 := (Nat.log2_lt hm).2 (by omega)
      have sh : m <<< ((-1074 : Int) - (-1074)).toNat = m := by simp
      rw [sh]
      unfold Format.nearest
      rw [if_neg hm, lp, fb, bn, ir]
      have la : max ((-1074 : Int) + (m.log2 : Int) - ((52 : Nat) : Int)) (-1074) = -1074 := by omega
      simp only [la]
      have ct := cut_exact s m 0 hm
      have z : m <<< 0 = m := rfl
      rw [z] at ct
      simp only [Int.sub_self, Int.toNat_zero, Nat.zero_mul, Nat.zero_add, z, ct]
      rw [Nat.min_eq_left (by omega)]
    · obtain ⟨w1, w2⟩ := read_word s m (by omega)
      rw [read_def, w1, w2, if_pos (by omega)]
  · rw [if_neg c1] at e
    by_cases c2 : a % 9223372036854775808 < 9218868437227405312
    · rw [if_pos c2] at e
      obtain ⟨e1, e2, e3⟩ : (a / 9223372036854775808 % 2 == 1) = s ∧ 4503599627370496 + a % 9223372036854775808 % 4503599627370496 = m ∧ (-1074 : Int) + ((a % 9223372036854775808 / 4503599627370496 - 1 : Nat) : Int) = i := by simpa using e
      have kk : (i - (-1074)).toNat = a % 9223372036854775808 / 4503599627370496 - 1 := by omega
      refine ⟨by omega, key (a % 9223372036854775808) (by omega) ?_ ?_⟩
      · have l : m.log2 = 52 := (Nat.log2_eq_iff hm).2 ⟨by omega, by omega⟩
        rw [kk]
        have ls := log2_shift m (a % 9223372036854775808 / 4503599627370496 - 1) hm
        unfold Format.nearest
        rw [if_neg (by rw [Nat.shiftLeft_eq]; exact Nat.mul_ne_zero hm (Nat.ne_of_gt (Nat.pow_pos (by decide)))), lp, fb, bn, ir]
        generalize hk : a % 9223372036854775808 / 4503599627370496 - 1 = k at *
        have la : max ((-1074 : Int) + ((m <<< k).log2 : Int) - ((52 : Nat) : Int)) (-1074) = -1074 + (k : Int) := by rw [ls, l]; omega
        simp only [la]
        have t1 : ((-1074 : Int) - (-1074 + (k : Int))).toNat = 0 := by omega
        have t2 : ((-1074 : Int) + (k : Int) - (-1074)).toNat = k := by omega
        simp only [t1, t2]
        have z : (m <<< k) <<< 0 = m <<< k := rfl
        rw [z, cut_exact s m k hm]
        congr 1
        rw [Nat.min_eq_left (by omega)]
        omega
      · obtain ⟨w1, w2⟩ := read_word s (a % 9223372036854775808) (by omega)
        rw [read_def, w1, w2, if_neg c1, if_pos c2, e2, e3]
    · rw [if_neg c2] at e
      by_cases c3 : a % 9223372036854775808 = 9218868437227405312
      · rw [if_pos c3] at e; cases e
      · rw [if_neg c3] at e; cases e

/-- equal as numbers, or both not a number: b1EqF's own question -/
def EqFl (a b : Nat) : Prop := (double.order a a = some .eq ∧ double.order a b = some .eq) ∨ (double.order a a ≠ some .eq ∧ double.order b b ≠ some .eq)
theorem order_self (a : Nat) : double.order a a = some .eq ∨ IsNan a := by
  unfold Format.order
  cases e : double.read a with
  | number s m i => exact .inl (by simp [Datum.order])
  | infinity s => exact .inl (by simp [Datum.order])
  | nan s t => exact .inr ⟨s, t, e⟩
theorem nan_order {a : Nat} (h : IsNan a) (b : Nat) : double.order a b = none := by
  obtain ⟨s, t, e⟩ := h
  unfold Format.order
  rw [e]
  rfl
theorem EqFl.refl (a : Nat) : EqFl a a := by
  rcases order_self a with h | h
  · exact .inl ⟨h, h⟩
  · exact .inr ⟨by rw [nan_order h]; simp, by rw [nan_order h]; simp⟩
theorem nan_add {a b : Nat} (h : IsNan a) : double.add a b = none := by
  obtain ⟨s, t, e⟩ := h
  unfold Format.add
  rw [e]; rfl
theorem add_nan {a b : Nat} (h : IsNan b) : double.add a b = none := by
  obtain ⟨s, t, e⟩ := h
  unfold Format.add
  rw [e]
  cases double.read a <;> rfl
theorem nan_mul {a b : Nat} (h : IsNan a) : double.mul a b = none := by
  obtain ⟨s, t, e⟩ := h
  unfold Format.mul
  rw [e]; rfl
theorem mul_nan {a b : Nat} (h : IsNan b) : double.mul a b = none := by
  obtain ⟨s, t, e⟩ := h
  unfold Format.mul
  rw [e]
  cases double.read a <;> rfl
theorem num_not_nan {a : Nat} (h : IsNum a) : ¬ IsNan a := by
  obtain ⟨s, m, i, e⟩ := h
  rintro ⟨s', t, e'⟩
  rw [e] at e'
  cases e'
/-- what comes of adding a zero: as the number itself -/
theorem add_zero_read {a z : Nat} (hz : IsZero z) (ha : ¬ IsNan a) : ∃ r, double.add a z = some r ∧ (double.read r = double.read a ∨ (∃ t i, double.read r = .number t 0 i) ∧ ∃ t i, double.read a = .number t 0 i) := by
  obtain ⟨t, ez⟩ := zero_read hz
  unfold Format.add
  rw [ez]
  cases e : double.read a with
  | nan s u => exact absurd ⟨s, u, e⟩ ha
  | infinity s =>
    refine ⟨_, rfl, .inl ?_⟩
    show double.read (double.write (.infinity s)) = _
    unfold Format.write
    rw [ir]
    obtain ⟨w1, w2⟩ := read_word s 9218868437227405312 (by omega)
    show double.read (double.word s 9218868437227405312) = _
    rw [read_def, w1, w2]
    simp
  | number s m i =>
    by_cases hm : m = 0
    · subst hm
      have e2 : (Datum.number s 0 i).sum (.number t 0 (-1074)) = some (.number (s && t) 0 (min i (-1074))) := by
        simp only [Datum.sum]
        have : signed s 0 (i - min i (-1074)).toNat + signed t 0 (-1074 - min i (-1074)).toNat = 0 := by
          cases s <;> cases t <;> simp [signed]
        simp [this]
      rw [e2]
      refine ⟨_, rfl, .inr ⟨?_, ⟨s, i, rfl⟩⟩⟩
      obtain ⟨u, eu⟩ := zero_read (write_zero (s && t) (min i (-1074)))
      exact ⟨u, _, eu⟩
    · obtain ⟨hi, nb⟩ := near_back e hm
      have mn : min i (-1074) = -1074 := by omega
      have pos : 0 < m <<< (i - -1074).toNat := by
        rw [Nat.shiftLeft_eq]
        exact Nat.mul_pos (Nat.pos_of_ne_zero hm) (Nat.pow_pos (by decide))
      have e2 : (Datum.number s m i).sum (.number t 0 (-1074)) = some (.number s (m <<< (i - -1074).toNat) (-1074)) := by
        have hs : signed s m (i - -1074).toNat = if s = true then -((m <<< (i - -1074).toNat : Nat) : Int) else ((m <<< (i - -1074).toNat : Nat) : Int) := rfl
        have ht : signed t 0 0 = 0 := by cases t <;> rfl
        simp only [Datum.sum, mn, Int.sub_self, Int.toNat_zero, hs, ht]
        obtain ⟨M, hM⟩ : ∃ M, m <<< (i - -1074).toNat = M := ⟨_, rfl⟩
        rw [hM] at pos ⊢
        clear hs ht nb e hM
        cases s
        · have p1 : ¬ ((M : Int) + 0 = 0) := by omega
          simp [Nat.pos_iff_ne_zero.1 pos]
        · have p1 : ¬ (-(M : Int) + 0 = 0) := by omega
          simp [Nat.pos_iff_ne_zero.1 pos, pos]
      rw [e2]
      exact ⟨_, rfl, .inl nb⟩
theorem cmp_lt {x y : Int} (h : x < y) : compare x y = .lt := by simp [compare, compareOfLessAndEq, h]
theorem cmp_gt {x y : Int} (h : y < x) : compare x y = .gt := by
  have a : ¬ x < y := by omega
  have b : ¬ x = y := by omega
  simp [compare, compareOfLessAndEq, a, b]
theorem order_zero {a b : Nat} {t u : Bool} {i j : Int} (ha : double.read a = .number t 0 i) (hb : double.read b = .number u 0 j) (c : Nat) : double.order a c = double.order b c := by
  unfold Format.order
  rw [ha, hb]
  cases double.read c with
  | nan s v => rfl
  | infinity s => rfl
  | number s m k =>
    simp only [Datum.order]
    have z : ∀ (t : Bool) (n : Nat), signed t 0 n = 0 := by intro t n; cases t <;> simp [signed]
    rw [z, z]
    have cmp : ∀ n : Nat, (compare (0 : Int) (signed s m n)) = compare (0 : Int) (signed s m 0) := by
      intro n
      have hp : 0 < 2 ^ n := Nat.pow_pos (by decide)
      rcases Nat.eq_zero_or_pos m with h0 | h0
      · subst h0; rw [z, z]
      · have h1 : 0 < m <<< n := by rw [Nat.shiftLeft_eq]; exact Nat.mul_pos h0 hp
        have h2 : 0 < m <<< 0 := h0
        cases s
        · simp only [signed, Bool.false_eq_true, if_false]
          rw [show compare (0 : Int) ((m <<< n : Nat) : Int) = .lt from cmp_lt (by omega), show compare (0 : Int) ((m <<< 0 : Nat) : Int) = .lt from cmp_lt (by omega)]
        · simp only [signed, if_true]
          rw [show compare (0 : Int) (-((m <<< n : Nat) : Int)) = .gt from cmp_gt (by omega), show compare (0 : Int) (-((m <<< 0 : Nat) : Int)) = .gt from cmp_gt (by omega)]
    rw [cmp, cmp (k - min j k).toNat]

/-- what an operation may give: the exact result's bits; or some NaN -/
def Res (o : Option Nat) (r : Nat) : Prop := match o with
  | some b => r = b
  | none => IsNan r
theorem EqFl.add_zero {a b z r : Nat} (h : EqFl a b) (hz : IsZero z) (hr : Res (double.add a z) r) : EqFl r b := by
  rcases order_self a with ha | ha
  · have hn : ¬ IsNan a := fun q => by rw [nan_order q] at ha; cases ha
    obtain ⟨r', e, q⟩ := add_zero_read hz hn
    rw [e] at hr
    have hr' : r = r' := hr
    subst hr'
    have hab : double.order a b = some .eq := by
      rcases h with h | h
      · exact h.2
      · exact absurd ha h.1
    have oc : ∀ c, double.order r c = double.order a c := by
      intro c
      rcases q with q | ⟨⟨t, i, q1⟩, ⟨u, j, q2⟩⟩
      · unfold Format.order; rw [q]
      · exact order_zero q1 q2 c
    have orr : double.order r r = some .eq := by
      rcases order_self r with h' | h'
      · exact h'
      · have := oc b
        rw [nan_order h', hab] at this
        cases this
    exact .inl ⟨orr, (oc b).trans hab⟩
  · have hb : double.order b b ≠ some .eq := by
      rcases h with h | h
      · rw [nan_order ha] at h; cases h.1
      · exact h.2
    rw [nan_add ha] at hr
    exact .inr ⟨by rw [nan_order hr]; simp, hb⟩
end Go.Proofs.Qxb6603460a
