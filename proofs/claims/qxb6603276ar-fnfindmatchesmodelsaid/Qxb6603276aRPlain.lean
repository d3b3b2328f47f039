import Derived.Laws.BitsAllLaws
import Derived.IntWalk
/-! THE PLAIN LAW of 'find'. No Go in sight. -/
namespace Go.Proofs.Qxb6603276aR
set_option linter.unusedVariables false

/-! ### bits -/
theorem ofInt_i64 (a : Nat) (ha : a < 9223372036854775808) : (BitVec.ofInt 64 (a : Int)).toNat = a := by
  rw [BitVec.ofInt_natCast, BitVec.toNat_ofNat]; exact Nat.mod_eq_of_lt (by omega)
theorem i64_and_nat (a b : Nat) (ha : a < 9223372036854775808) (hb : b < 9223372036854775808) : bits .and .i64 (a : Int) (b : Int) = ((a &&& b : Nat) : Int) := by
  have hx : a &&& b < 2 ^ 63 := Nat.and_lt_two_pow _ (by omega)
  show IntKind.i64.wrap ((BitVec.ofInt 64 (a : Int) &&& BitVec.ofInt 64 (b : Int)).toNat : Int) = _
  rw [BitVec.toNat_and, ofInt_i64 a ha, ofInt_i64 b hb, IntKind.wrap_i64]
  omega
theorem i64_xor_nat (a b : Nat) (ha : a < 9223372036854775808) (hb : b < 9223372036854775808) : bits .xor .i64 (a : Int) (b : Int) = ((a ^^^ b : Nat) : Int) := by
  have hx : a ^^^ b < 2 ^ 63 := Nat.xor_lt_two_pow (by omega) (by omega)
  show IntKind.i64.wrap ((BitVec.ofInt 64 (a : Int) ^^^ BitVec.ofInt 64 (b : Int)).toNat : Int) = _
  rw [BitVec.toNat_xor, ofInt_i64 a ha, ofInt_i64 b hb, IntKind.wrap_i64]
  omega
theorem pow_le (bt : Nat) (h : bt ≤ 16) : 2 ^ bt ≤ 65536 := by
  have := Nat.pow_le_pow_right (show 0 < 2 by omega) h
  omega
theorem pow_ge (bt : Nat) (h : 2 ≤ bt) : 4 ≤ 2 ^ bt := by
  have := Nat.pow_le_pow_right (show 0 < 2 by omega) h
  omega
theorem xor16 (q k : Nat) : (q * 16) ^^^ (k * 16) = (q ^^^ k) * 16 := by
  have := Nat.shiftLeft_xor_distrib (a := q) (b := k) (i := 4)
  simp only [Nat.shiftLeft_eq] at this
  exact this.symm
theorem xor_ne {q k : Nat} (h : k ≠ 0) : q ^^^ k ≠ q := by
  intro e
  have : q ^^^ (q ^^^ k) = q ^^^ q := by rw [e]
  rw [← Nat.xor_assoc, Nat.xor_self, Nat.zero_xor] at this
  exact h this
theorem xor_ne2 {q k j : Nat} (h : k ≠ j) : q ^^^ k ≠ q ^^^ j := by
  intro e
  have : q ^^^ (q ^^^ k) = q ^^^ (q ^^^ j) := by rw [e]
  rw [← Nat.xor_assoc, Nat.xor_self, Nat.zero_xor, ← Nat.xor_assoc, Nat.xor_self, Nat.zero_xor] at this
  exact h this

/-- three different rows of 16 bytes within N -/
structure Cand (N r0 r1 r2 : Nat) : Prop where
  le0 : r0 + 16 ≤ N
  le1 : r1 + 16 ≤ N
  le2 : r2 + 16 ≤ N
  m0 : r0 % 16 = 0
  m1 : r1 % 16 = 0
  m2 : r2 % 16 = 0
  d01 : r0 ≠ r1
  d02 : r0 ≠ r2
  d12 : r1 ≠ r2
/-- where the row of cx lies -/
def home (cx bt : Nat) : Nat := cx % 2 ^ bt * 16
theorem cand (cx bt : Nat) (h2 : 2 ≤ bt) : Cand (16 * 2 ^ bt) (home cx bt) (home cx bt ^^^ 16) (home cx bt ^^^ 32) := by
  have p2 := pow_ge bt h2
  have q := Nat.mod_lt cx (show 0 < 2 ^ bt by omega)
  have l1 : cx % 2 ^ bt ^^^ 1 < 2 ^ bt := Nat.xor_lt_two_pow q (by omega)
  have l2 : cx % 2 ^ bt ^^^ 2 < 2 ^ bt := Nat.xor_lt_two_pow q (by omega)
  have e1 : home cx bt ^^^ 16 = (cx % 2 ^ bt ^^^ 1) * 16 := xor16 _ 1
  have e2 : home cx bt ^^^ 32 = (cx % 2 ^ bt ^^^ 2) * 16 := xor16 _ 2
  have n1 := xor_ne (q := cx % 2 ^ bt) (k := 1) (by omega)
  have n2 := xor_ne (q := cx % 2 ^ bt) (k := 2) (by omega)
  have n3 := xor_ne2 (q := cx % 2 ^ bt) (k := 1) (j := 2) (by omega)
  rw [e1, e2]
  unfold home
  constructor <;> omega
theorem home_find (cx bt : Nat) (hcx : cx < 4294967296) (h2 : 2 ≤ bt) (h16 : bt ≤ 16) : bits .and .i64 ((cx : Int) * 16 % 4294967296) (((16 * 2 ^ bt : Nat) : Int) - 1) = (home cx bt : Int) := by
  have p1 := pow_le bt h16
  have p2 := pow_ge bt h2
  have e1 : (cx : Int) * 16 % 4294967296 = ((cx * 16 % 4294967296 : Nat) : Int) := by omega
  have e2 : ((16 * 2 ^ bt : Nat) : Int) - 1 = ((2 ^ (bt + 4) - 1 : Nat) : Int) := by
    rw [Nat.pow_add]
    omega
  have p3 : 2 ^ (bt + 4) ≤ 1048576 := by rw [Nat.pow_add]; omega
  rw [e1, e2, i64_and_nat _ _ (by omega) (by omega), Nat.and_two_pow_sub_one_eq_mod]
  have d : 2 ^ (bt + 4) ∣ 4294967296 := by
    have := Nat.pow_dvd_pow 2 (show bt + 4 ≤ 32 by omega)
    simpa using this
  rw [Nat.mod_mod_of_dvd _ d, Nat.pow_add, show (2 : Nat) ^ 4 = 16 from rfl, Nat.mul_mod_mul_right]
  rfl
theorem xor_find (r k : Nat) (h : r ≤ 1048576) (hk : k ≤ 64) : bits .xor .i64 (r : Int) (k : Int) = ((r ^^^ k : Nat) : Int) := i64_xor_nat r k (by omega) (by omega)

/-! ### what 'find' does -/
def upd (f : Nat → Int) (i : Nat) (x : Int) : Nat → Int := fun j => if j = i then x else f j
/-- row r taken for the check ck: ck, then fifteen zeros -/
def taken (R : Nat → Int) (r : Nat) (ck : Int) : Nat → Int := fun i => if i = r then ck else if r ≤ i ∧ i < r + 16 then 0 else R i
def isHit (R : Nat → Int) (r0 r1 r2 : Nat) (ck : Int) : Bool := decide (R r0 = ck) || (decide (R r1 = ck) || decide (R r2 = ck))
def hitAt (R : Nat → Int) (r0 r1 r2 : Nat) (ck : Int) : Nat := if R r0 = ck then r0 else if R r1 = ck then r1 else r2
def missAt (R : Nat → Int) (r0 r1 r2 : Nat) : Nat := if R (r0 + 1) ≤ R (r1 + 1) ∧ R (r0 + 1) ≤ R (r2 + 1) then r0 else if R (r1 + 1) < R (r2 + 1) then r1 else r2
def fRes (R : Nat → Int) (r0 r1 r2 : Nat) (ck : Int) : Nat := if isHit R r0 r1 r2 ck then hitAt R r0 r1 r2 ck else missAt R r0 r1 r2
def fRow (R : Nat → Int) (r0 r1 r2 : Nat) (ck : Int) : Nat → Int := if isHit R r0 r1 r2 ck then R else taken R (missAt R r0 r1 r2) ck

theorem res0 {R : Nat → Int} {r0 r1 r2 : Nat} {ck : Int} (h : R r0 = ck) : fRes R r0 r1 r2 ck = r0 ∧ fRow R r0 r1 r2 ck = R := by simp [fRes, fRow, isHit, hitAt, h]
theorem res1 {R : Nat → Int} {r0 r1 r2 : Nat} {ck : Int} (h0 : R r0 ≠ ck) (h : R r1 = ck) : fRes R r0 r1 r2 ck = r1 ∧ fRow R r0 r1 r2 ck = R := by simp [fRes, fRow, isHit, hitAt, h0, h]
theorem res2 {R : Nat → Int} {r0 r1 r2 : Nat} {ck : Int} (h0 : R r0 ≠ ck) (h1 : R r1 ≠ ck) (h : R r2 = ck) : fRes R r0 r1 r2 ck = r2 ∧ fRow R r0 r1 r2 ck = R := by simp [fRes, fRow, isHit, hitAt, h0, h1, h]
theorem resm {R : Nat → Int} {r0 r1 r2 : Nat} {ck : Int} (h0 : R r0 ≠ ck) (h1 : R r1 ≠ ck) (h2 : R r2 ≠ ck) : fRes R r0 r1 r2 ck = missAt R r0 r1 r2 ∧ fRow R r0 r1 r2 ck = taken R (missAt R r0 r1 r2) ck := by simp [fRes, fRow, isHit, h0, h1, h2]

theorem fRes_cases (R : Nat → Int) (r0 r1 r2 : Nat) (ck : Int) : fRes R r0 r1 r2 ck = r0 ∨ fRes R r0 r1 r2 ck = r1 ∨ fRes R r0 r1 r2 ck = r2 := by
  unfold fRes hitAt missAt
  repeat' split
  all_goals simp
/-- after 'find' the row that it gave starts with the check; a second 'find' gives the same row and changes nothing -/
theorem again {N r0 r1 r2 : Nat} (c : Cand N r0 r1 r2) (R : Nat → Int) (ck : Int) :
    fRow R r0 r1 r2 ck (fRes R r0 r1 r2 ck) = ck ∧ fRes (fRow R r0 r1 r2 ck) r0 r1 r2 ck = fRes R r0 r1 r2 ck ∧ fRow (fRow R r0 r1 r2 ck) r0 r1 r2 ck = fRow R r0 r1 r2 ck := by
  have hm0 := c.m0
  have hm1 := c.m1
  have hm2 := c.m2
  have d01 := c.d01
  have d02 := c.d02
  have d12 := c.d12
  by_cases h0 : R r0 = ck
  · obtain ⟨a, b⟩ := res0 (r1 := r1) (r2 := r2) h0
    rw [a, b, a, b]
    exact ⟨h0, rfl, rfl⟩
  by_cases h1 : R r1 = ck
  · obtain ⟨a, b⟩ := res1 (r2 := r2) h0 h1
    rw [a, b, a, b]
    exact ⟨h1, rfl, rfl⟩
  by_cases h2 : R r2 = ck
  · obtain ⟨a, b⟩ := res2 h0 h1 h2
    rw [a, b, a, b]
    exact ⟨h2, rfl, rfl⟩
  obtain ⟨a, b⟩ := resm h0 h1 h2
  rw [a, b]
  have self : taken R (missAt R r0 r1 r2) ck (missAt R r0 r1 r2) = ck := by simp [taken]
  have far : ∀ x, x % 16 = 0 → x ≠ missAt R r0 r1 r2 → missAt R r0 r1 r2 % 16 = 0 → taken R (missAt R r0 r1 r2) ck x = R x := by
    intro x h3 h4 h5
    unfold taken
    rw [if_neg h4, if_neg (by omega)]
  have hc : missAt R r0 r1 r2 = r0 ∨ missAt R r0 r1 r2 = r1 ∨ missAt R r0 r1 r2 = r2 := by
    unfold missAt
    repeat' split
    all_goals simp
  refine ⟨self, ?_⟩
  rcases hc with e | e | e
  · rw [e] at self ⊢
    obtain ⟨a2, b2⟩ := res0 (r1 := r1) (r2 := r2) self
    exact ⟨a2, b2⟩
  · have f0 := far r0 hm0 (by omega) (by omega)
    rw [e] at self f0 ⊢
    obtain ⟨a2, b2⟩ := res1 (r2 := r2) (by rw [f0]; exact h0) self
    exact ⟨a2, b2⟩
  · have f0 := far r0 hm0 (by omega) (by omega)
    have f1 := far r1 hm1 (by omega) (by omega)
    rw [e] at self f0 f1 ⊢
    obtain ⟨a2, b2⟩ := res2 (by rw [f0]; exact h0) (by rw [f1]; exact h1) self
    exact ⟨a2, b2⟩
end Go.Proofs.Qxb6603276aR
