import Derived.Test.Qxb6603154aPlain
/-! What the law's own checks ask of a settled heap. No Go in sight. -/
namespace Go.Proofs.Qxb6603154a
set_option linter.unusedVariables false

/-- the row of owners, filled from the first k holders -/
structure OwnTo (k m : Nat) (P0 o : Nat → Int) : Prop where
  at_ : ∀ j, j < k → o (P0 j).toNat = j
  no : ∀ p : Nat, p < m → (∀ j, j < k → P0 j ≠ p) → o p = -1
theorem OwnTo.zero {m : Nat} {P0 o : Nat → Int} (h : ∀ p, p < m → o p = -1) : OwnTo 0 m P0 o := ⟨fun j hj => by omega, fun p hp _ => h p hp⟩
theorem OwnTo.succ {n k m : Nat} {P0 L0 o : Nat → Int} (ix : Idx0 n m P0 L0) (hk : k < n) (h : OwnTo k m P0 o) : OwnTo (k + 1) m P0 (upd o (P0 k).toNat k) := by
  refine ⟨?_, ?_⟩
  · intro j hj
    by_cases e : j = k
    · subst e; exact upd_same _ _ _
    · have a := ix.lo k hk
      have b := ix.lo j (by omega)
      rw [upd_ne _ _ _ _ (fun q => e (ix.inj (by omega) hk (by omega)))]
      exact h.at_ j (by omega)
  · intro p hp hno
    have a := ix.lo k hk
    have b := hno k (by omega)
    rw [upd_ne _ _ _ _ (by omega)]
    exact h.no p hp fun j hj => hno j (by omega)
theorem OwnTo.neg {n m : Nat} {P0 o : Nat → Int} (ix : ∀ i, i < n → 0 ≤ P0 i) (h : OwnTo n m P0 o) {p : Nat} (q : o p < 0) : ∀ j, j < n → P0 j ≠ p := by
  intro j hj e
  have := h.at_ j hj
  rw [e] at this
  simp at this
  omega

theorem Fin.lo {n m s f : Nat} {S0 P0 L0 S P L : Nat → Int} {σ : Nat → Nat} (ix : Idx0 n m P0 L0) (h : Fin n m s f S0 P0 L0 S P L σ) (i : Nat) (hi : i < n) : 0 ≤ P i ∧ P i < m := by
  have a := h.src i hi
  rw [a.2.2]
  exact ⟨ix.lo _ a.1, ix.hi _ a.1⟩
theorem Fin.own {n m s f : Nat} {S0 P0 L0 S P L o : Nat → Int} {σ : Nat → Nat} (h : Fin n m s f S0 P0 L0 S P L σ) (w : OwnTo n m P0 o) (i : Nat) (hi : i < n) : o (P i).toNat = σ i := by
  have a := h.src i hi
  rw [a.2.2]
  exact w.at_ _ a.1
theorem Fin.chg {n m s f : Nat} {S0 P0 L0 S P L : Nat → Int} {σ : Nat → Nat} (ix : Idx0 n m P0 L0) (h : Fin n m s f S0 P0 L0 S P L σ) (i : Nat) (hi : i < n) : P i ≠ P0 i ↔ σ i ≠ i := by
  have a := h.src i hi
  rw [a.2.2]
  constructor
  · intro q e
    exact q (by rw [e])
  · intro q e
    exact q (ix.inj a.1 hi e)
theorem Fin.line {n m s f : Nat} {S0 P0 L0 S P L : Nat → Int} {σ : Nat → Nat} (ix : Idx0 n m P0 L0) (h : Fin n m s f S0 P0 L0 S P L σ) (i : Nat) (hi : i < n) (q : P i ≠ P0 i) : Anc i s ∨ Anc s i := by
  obtain ⟨t, b, h1, _, h3, _⟩ := h.path
  have := h1 i hi ((h.chg ix i hi).1 q)
  rcases h3 with ⟨_, rfl⟩ | ⟨rfl, _⟩
  · exact .inl this.2
  · exact .inr this.1
theorem Fin.chain {n m s f : Nat} {S0 P0 L0 S P L : Nat → Int} {σ : Nat → Nat} (ix : Idx0 n m P0 L0) (h : Fin n m s f S0 P0 L0 S P L σ) (i t : Nat) (hi : i < n) (h1 : 1 ≤ i) (q : P i ≠ P0 i)
    (ht : t < n) (qt : P t ≠ P0 t) (first : ∀ j, j < t → P j = P0 j) (ne : i ≠ t) : P (par i) ≠ P0 (par i) := by
  obtain ⟨u, b, a1, a2, a3, a4⟩ := h.path
  have ci := a1 i hi ((h.chg ix i hi).1 q)
  have ct := a1 t ht ((h.chg ix t ht).1 qt)
  have hlt : par i < i := par_lt (by omega)
  by_cases e : u = i
  · -- then t, the first, is below i and not above it
    subst e
    have l1 := ct.1.le
    have l2 : t ≤ u := by
      rcases Nat.lt_or_ge u t with q2 | q2
      · exact absurd (first u q2) q
      · exact q2
    omega
  · refine (h.chg ix (par i) (by omega)).2 (a2 (par i) (by omega) (ci.1.step e) ((Anc.up1 i).trans ci.2) ?_)
    intro eb
    subst eb
    exact e (ci.1.anti ci.2)
theorem Fin.sibs {n m s f : Nat} {S0 P0 L0 S P L : Nat → Int} {σ : Nat → Nat} (ix : Idx0 n m P0 L0) (h : Fin n m s f S0 P0 L0 S P L σ) (i : Nat) (hi : i + 1 < n) (odd : i % 2 = 1) (q : P i ≠ P0 i) : P (i + 1) = P0 (i + 1) := by
  obtain ⟨u, b, a1, _, _, _⟩ := h.path
  refine Classical.byContradiction fun q2 => ?_
  exact sib odd (a1 i (by omega) ((h.chg ix i (by omega)).1 q)).2 (a1 (i + 1) hi ((h.chg ix (i + 1) hi).1 q2)).2
theorem Fin.at_s {n m s f : Nat} {S0 P0 L0 S P L : Nat → Int} {σ : Nat → Nat} (h : Fin n m s f S0 P0 L0 S P L σ) : L (P0 s).toNat = f := by
  have a := h.src f h.fl
  have b := h.idx f h.fl
  rw [a.2.2, h.at_f] at b
  exact b
theorem Fin.onl {n m s f : Nat} {S0 P0 L0 S P L : Nat → Int} {σ : Nat → Nat} (h : Fin n m s f S0 P0 L0 S P L σ) : Anc f s ∨ Anc s f := by
  obtain ⟨t, b, _, _, h3, h4⟩ := h.path
  rcases h3 with ⟨rfl, rfl⟩ | ⟨rfl, rfl⟩
  · exact .inl h4
  · exact .inr h4
/-- the first slot that has changed, so far -/
def TopTo (k : Nat) (P P0 : Nat → Int) (top : Int) : Prop := (top = -1 ∧ ∀ i, i < k → P i = P0 i) ∨ ∃ t : Nat, t < k ∧ top = t ∧ P t ≠ P0 t ∧ ∀ i, i < t → P i = P0 i
theorem TopTo.zero (P P0 : Nat → Int) : TopTo 0 P P0 (-1) := .inl ⟨rfl, fun i hi => by omega⟩
theorem TopTo.same {k : Nat} {P P0 : Nat → Int} {top : Int} (h : TopTo k P P0 top) (e : P k = P0 k) : TopTo (k + 1) P P0 top := by
  rcases h with ⟨a, b⟩ | ⟨t, a, b, c, d⟩
  · refine .inl ⟨a, fun i hi => ?_⟩
    by_cases q : i = k
    · rw [q]; exact e
    · exact b i (by omega)
  · exact .inr ⟨t, by omega, b, c, d⟩
theorem TopTo.stay {k : Nat} {P P0 : Nat → Int} {top : Int} (h : TopTo k P P0 top) (e : ¬ top < 0) : TopTo (k + 1) P P0 top := by
  rcases h with ⟨a, b⟩ | ⟨t, a, b, c, d⟩
  · omega
  · exact .inr ⟨t, by omega, b, c, d⟩
theorem TopTo.first {k : Nat} {P P0 : Nat → Int} {top : Int} (h : TopTo k P P0 top) (e : top < 0) (q : P k ≠ P0 k) : TopTo (k + 1) P P0 k := by
  rcases h with ⟨a, b⟩ | ⟨t, a, b, c, d⟩
  · exact .inr ⟨k, by omega, rfl, q, b⟩
  · omega
theorem TopTo.lo {k : Nat} {P P0 : Nat → Int} {top : Int} (h : TopTo k P P0 top) : -1 ≤ top ∧ top < k := by
  rcases h with ⟨a, b⟩ | ⟨t, a, b, c, d⟩ <;> omega
theorem Fin.chain' {n m s f : Nat} {S0 P0 L0 S P L : Nat → Int} {σ : Nat → Nat} (ix : Idx0 n m P0 L0) (h : Fin n m s f S0 P0 L0 S P L σ) {top : Int} (T : TopTo n P P0 top) (i : Nat) (hi : i < n) (h1 : 1 ≤ i) (q : P i ≠ P0 i) (ne : (i : Int) ≠ top) : P (par i) ≠ P0 (par i) := by
  rcases T with ⟨a, b⟩ | ⟨t, a, b, c, d⟩
  · exact absurd (b i hi) q
  · exact h.chain ix i t hi h1 q a c d (by omega)
end Go.Proofs.Qxb6603154a
