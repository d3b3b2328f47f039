/-! THE PLAIN LAW of 'settle': heaps as functions from slots to numbers. No Go in sight. -/
namespace Go.Proofs.Qxb6603154a
set_option linter.unusedVariables false

/-- f, turned at i -/
def upd (f : Nat → Int) (i : Nat) (x : Int) : Nat → Int := fun j => if j = i then x else f j
theorem upd_same (f : Nat → Int) (i : Nat) (x : Int) : upd f i x i = x := by simp [upd]
theorem upd_ne (f : Nat → Int) (i j : Nat) (x : Int) (h : j ≠ i) : upd f i x j = f j := by simp [upd, h]

/-! ### the tree -/
def par (i : Nat) : Nat := (i - 1) / 2
def up : Nat → Nat → Nat
  | 0, b => b
  | k + 1, b => up k (par b)
/-- a is b or stands above it -/
def Anc (a b : Nat) : Prop := ∃ k, up k b = a
theorem par_le (i : Nat) : par i ≤ i := by unfold par; omega
theorem par_lt {i : Nat} (h : 0 < i) : par i < i := by unfold par; omega
theorem up_le (k b : Nat) : up k b ≤ b := by
  induction k generalizing b with
  | zero => exact Nat.le_refl _
  | succ k ih => exact Nat.le_trans (ih (par b)) (par_le b)
theorem up_add (j k b : Nat) : up (j + k) b = up k (up j b) := by
  induction j generalizing b with
  | zero => simp [up]
  | succ j ih => rw [Nat.succ_add]; exact ih (par b)
theorem Anc.refl (a : Nat) : Anc a a := ⟨0, rfl⟩
theorem Anc.up1 (a : Nat) : Anc (par a) a := ⟨1, rfl⟩
theorem Anc.trans {a b c : Nat} (h : Anc a b) (k : Anc b c) : Anc a c := by
  obtain ⟨i, rfl⟩ := h
  obtain ⟨j, rfl⟩ := k
  exact ⟨j + i, up_add j i c⟩
theorem Anc.le {a b : Nat} (h : Anc a b) : a ≤ b := by
  obtain ⟨i, rfl⟩ := h
  exact up_le i b
theorem Anc.anti {a b : Nat} (h : Anc a b) (k : Anc b a) : a = b := Nat.le_antisymm h.le k.le
theorem Anc.step {a b : Nat} (h : Anc a b) (ne : a ≠ b) : Anc a (par b) := by
  obtain ⟨i, hi⟩ := h
  match i, hi with
  | 0, hi => exact absurd hi.symm ne
  | i + 1, hi => exact ⟨i, hi⟩
theorem Anc.total {a b c : Nat} (h : Anc a c) (k : Anc b c) : Anc a b ∨ Anc b a := by
  obtain ⟨i, rfl⟩ := h
  obtain ⟨j, rfl⟩ := k
  rcases Nat.le_total i j with q | q
  · refine .inr ⟨j - i, ?_⟩
    rw [← up_add, show i + (j - i) = j from by omega]
  · refine .inl ⟨i - j, ?_⟩
    rw [← up_add, show j + (i - j) = i from by omega]
/-- two different children of one slot do not stand on one line -/
theorem sib {i c : Nat} (h0 : i % 2 = 1) (h : Anc i c) (k : Anc (i + 1) c) : False := by
  rcases h.total k with q | q
  · have := (q.step (by omega)).le
    unfold par at this
    omega
  · have := q.le
    omega

/-! ### what is known at the start -/
structure Idx0 (n m : Nat) (P0 L0 : Nat → Int) : Prop where
  lo : ∀ i, i < n → 0 ≤ P0 i
  hi : ∀ i, i < n → P0 i < m
  ix : ∀ i, i < n → L0 (P0 i).toNat = i
theorem Idx0.inj {n m : Nat} {P0 L0 : Nat → Int} (h : Idx0 n m P0 L0) {i j : Nat} (hi : i < n) (hj : j < n) (e : P0 i = P0 j) : i = j := by
  have a := h.ix i hi
  have b := h.ix j hj
  rw [e] at a
  omega
def HeapBut (n s : Nat) (S0 : Nat → Int) : Prop :=
  (∀ i, 1 ≤ i → i < n → i ≠ s → par i ≠ s → S0 (par i) ≤ S0 i) ∧ (∀ i, 1 ≤ i → i < n → i ≠ s → par i = s → 1 ≤ s → S0 (par s) ≤ S0 i)

/-! ### the hole h in the heap -/
structure Base (n m h s0 : Nat) (S0 P0 L0 S P L : Nat → Int) (σ : Nat → Nat) : Prop where
  hn : h < n
  src : ∀ i, i < n → σ i < n ∧ S i = S0 (σ i) ∧ P i = P0 (σ i)
  ne : ∀ i, i < n → i ≠ h → σ i ≠ s0
  idx : ∀ i, i < n → i ≠ h → L (P i).toNat = i
  out : ∀ p : Nat, p < m → (∀ i, i < n → P0 i ≠ p) → L p = L0 p
  ord1 : ∀ i, 1 ≤ i → i < n → i ≠ h → par i ≠ h → S (par i) ≤ S i
  ord2 : ∀ i, 1 ≤ i → i < n → par i = h → 1 ≤ h → S (par h) ≤ S i
structure UpI (n m h s0 : Nat) (S0 P0 L0 S P L : Nat → Int) (σ : Nat → Nat) : Prop extends Base n m h s0 S0 P0 L0 S P L σ where
  anc : Anc h s0
  chg : ∀ i, i < n → i ≠ h → (σ i ≠ i ↔ Anc h i ∧ Anc i s0)
  kids : h ≠ s0 → ∀ i, 1 ≤ i → i < n → par i = h → S0 s0 < S i
  dir : h ≠ s0 → 0 < s0 ∧ S0 s0 < S0 (par s0)
structure DnI (n m h s0 : Nat) (S0 P0 L0 S P L : Nat → Int) (σ : Nat → Nat) : Prop extends Base n m h s0 S0 P0 L0 S P L σ where
  low : 1 ≤ h → S (par h) ≤ S0 s0
  way : (Anc s0 h ∧ (∀ i, i < n → i ≠ h → (σ i ≠ i ↔ Anc s0 i ∧ Anc i h)) ∧ ¬ (0 < s0 ∧ S0 s0 < S0 (par s0))) ∨
    (h ≠ s0 ∧ Anc h s0 ∧ (∀ i, i < n → i ≠ h → (σ i ≠ i ↔ Anc h i ∧ Anc i s0)) ∧ (0 < s0 ∧ S0 s0 < S0 (par s0)) ∧ ∀ i, 1 ≤ i → i < n → par i = h → S0 s0 < S i)
structure Fin (n m s0 f : Nat) (S0 P0 L0 S P L : Nat → Int) (σ : Nat → Nat) : Prop where
  fl : f < n
  src : ∀ i, i < n → σ i < n ∧ S i = S0 (σ i) ∧ P i = P0 (σ i)
  at_f : σ f = s0
  idx : ∀ i, i < n → L (P i).toNat = i
  out : ∀ p : Nat, p < m → (∀ i, i < n → P0 i ≠ p) → L p = L0 p
  ord : ∀ i, 1 ≤ i → i < n → S (par i) ≤ S i
  path : ∃ t b, (∀ i, i < n → σ i ≠ i → Anc t i ∧ Anc i b) ∧ (∀ i, i < n → Anc t i → Anc i b → t ≠ b → σ i ≠ i) ∧ ((t = f ∧ b = s0) ∨ (t = s0 ∧ b = f)) ∧ Anc t b
  dirU : 0 < s0 → S0 s0 < S0 (par s0) → f < s0
  dirD : ¬ (0 < s0 ∧ S0 s0 < S0 (par s0)) → s0 ≤ f

theorem up_start {n m s0 : Nat} {S0 P0 L0 : Nat → Int} (hs : s0 < n) (ix : Idx0 n m P0 L0) (hb : HeapBut n s0 S0) : UpI n m s0 s0 S0 P0 L0 S0 P0 L0 (fun i => i) where
  hn := hs
  src := fun i hi => ⟨hi, rfl, rfl⟩
  ne := fun i _ h => h
  idx := fun i hi _ => ix.ix i hi
  out := fun p _ _ => rfl
  ord1 := hb.1
  ord2 := fun i h1 h2 h3 h4 => hb.2 i h1 h2 (by intro e; subst e; have := par_lt (i := i) (by omega); omega) h3 h4
  anc := Anc.refl _
  chg := fun i _ h => ⟨fun q => absurd rfl q, fun q => absurd (q.2.anti q.1) h⟩
  kids := fun h => absurd rfl h
  dir := fun h => absurd rfl h

/-- the holder of slot c goes to the hole h; the hole is at c now: what both directions share -/
theorem move {n m h c s0 : Nat} {S0 P0 L0 S P L : Nat → Int} {σ : Nat → Nat} (ix : Idx0 n m P0 L0) (b : Base n m h s0 S0 P0 L0 S P L σ) (hc : c < n) (hne : c ≠ h) :
    (∀ i, i < n → (if i = h then σ c else σ i) < n ∧ upd S h (S c) i = S0 (if i = h then σ c else σ i) ∧ upd P h (P c) i = P0 (if i = h then σ c else σ i)) ∧
    (∀ i, i < n → i ≠ c → (if i = h then σ c else σ i) ≠ s0) ∧
    (∀ i, i < n → i ≠ c → upd L (P c).toNat h (upd P h (P c) i).toNat = i) ∧
    (∀ p : Nat, p < m → (∀ i, i < n → P0 i ≠ p) → upd L (P c).toNat h p = L0 p) := by
  refine ⟨?_, ?_, ?_, ?_⟩
  · intro i hi
    by_cases e : i = h
    · subst e
      simp only [if_true, upd_same]
      exact b.src c hc
    · simp only [if_neg e, upd_ne _ _ _ _ e]
      exact b.src i hi
  · intro i hi hic
    by_cases e : i = h
    · simp only [e, if_true]
      exact b.ne c hc hne
    · simp only [if_neg e]
      exact b.ne i hi e
  · intro i hi hic
    by_cases e : i = h
    · subst e
      rw [upd_same, upd_same]
    · rw [upd_ne _ _ _ _ e]
      have h1 := b.idx i hi e
      have h2 := b.idx c hc hne
      rw [upd_ne _ _ _ _ (by intro q; rw [q] at h1; omega)]
      exact h1
  · intro p hp hno
    have h1 := b.src c hc
    have h2 := ix.lo (σ c) h1.1
    have h3 := hno (σ c) h1.1
    rw [upd_ne _ _ _ _ (by rw [h1.2.2]; omega)]
    exact b.out p hp hno

theorem up_step {n m h s0 : Nat} {S0 P0 L0 S P L : Nat → Int} {σ : Nat → Nat} (ix : Idx0 n m P0 L0) (u : UpI n m h s0 S0 P0 L0 S P L σ) (h0 : 0 < h) (gt : S0 s0 < S (par h)) :
    UpI n m (par h) s0 S0 P0 L0 (upd S h (S (par h))) (upd P h (P (par h))) (upd L (P (par h)).toNat h) (fun i => if i = h then σ (par h) else σ i) := by
  have hp := par_lt h0
  have hn := u.hn
  obtain ⟨m1, m2, m3, m4⟩ := move ix u.toBase (c := par h) (by omega) (by omega)
  have su : ¬ σ (par h) ≠ par h := by
    intro q
    have := ((u.chg (par h) (by omega) (by omega)).1 q).1.le
    omega
  have su' : σ (par h) = par h := Classical.not_not.1 su
  have sn : ∀ i, i ≠ h → upd S h (S (par h)) i = S i := fun i e => upd_ne _ _ _ _ e
  have ss : upd S h (S (par h)) h = S (par h) := upd_same _ _ _
  refine { hn := by omega, src := m1, ne := m2, idx := m3, out := m4, ord1 := ?_, ord2 := ?_, anc := ?_, chg := ?_, kids := ?_, dir := ?_ }
  · intro i h1 h2 h3 h4
    have hi : i ≠ h := fun e => h4 (by rw [e])
    rw [sn i hi]
    by_cases e : par i = h
    · rw [e, ss]
      exact u.ord2 i h1 h2 e (by omega)
    · rw [sn _ e]
      exact u.ord1 i h1 h2 hi e
  · intro i h1 h2 h3 h4
    have hpp : par (par h) < par h := par_lt (by omega)
    rw [sn (par (par h)) (by omega)]
    have o1 := u.ord1 (par h) h4 (by omega) (by omega) (by omega)
    by_cases e : i = h
    · rw [e, ss]
      exact o1
    · rw [sn i e]
      have o2 := u.ord1 i h1 h2 e (by omega)
      rw [h3] at o2
      omega
  · exact (Anc.up1 h).trans u.anc
  · intro i hi hne
    by_cases e : i = h
    · subst e
      simp only [if_true]
      refine ⟨fun _ => ⟨Anc.up1 i, u.anc⟩, fun _ => ?_⟩
      rw [su']
      omega
    · simp only [if_neg e]
      rw [u.chg i hi e]
      constructor
      · rintro ⟨a, b⟩
        exact ⟨(Anc.up1 h).trans a, b⟩
      · rintro ⟨a, b⟩
        rcases u.anc.total b with q | q
        · exact ⟨q, b⟩
        · exact absurd ((q.step e).anti a) hne
  · intro _ i h1 h2 h3
    by_cases e : i = h
    · rw [e, ss]; exact gt
    · rw [sn i e]
      have := u.ord1 i h1 h2 e (by omega)
      rw [h3] at this
      omega
  · intro _
    by_cases e : h = s0
    · subst e
      have q := (u.src (par h) (by omega)).2.1
      rw [su'] at q
      exact ⟨h0, by omega⟩
    · exact u.dir e

theorem up_end {n m h s0 : Nat} {S0 P0 L0 S P L : Nat → Int} {σ : Nat → Nat} (u : UpI n m h s0 S0 P0 L0 S P L σ) (stop : 0 < h → S (par h) ≤ S0 s0) :
    DnI n m h s0 S0 P0 L0 S P L σ := by
  refine { u.toBase with low := fun q => stop (by omega), way := ?_ }
  by_cases e : h = s0
  · subst e
    refine .inl ⟨Anc.refl _, fun i hi hne => ?_, ?_⟩
    · rw [u.chg i hi hne]
    · rintro ⟨h0, gt⟩
      have hp := par_lt h0
      have hn := u.hn
      have su : ¬ σ (par h) ≠ par h := by
        intro q
        have := ((u.chg (par h) (by omega) (by omega)).1 q).1.le
        omega
      have q := (u.src (par h) (by omega)).2.1
      rw [Classical.not_not.1 su] at q
      have := stop h0
      omega
  · exact .inr ⟨e, u.anc, u.chg, u.dir e, u.kids e⟩

theorem dn_step {n m h c s0 : Nat} {S0 P0 L0 S P L : Nat → Int} {σ : Nat → Nat} (ix : Idx0 n m P0 L0) (u : DnI n m h s0 S0 P0 L0 S P L σ) (hc : c < n) (h1c : 1 ≤ c) (pc : par c = h)
    (least : ∀ i, 1 ≤ i → i < n → par i = h → S c ≤ S i) (lt : S c < S0 s0) :
    DnI n m c s0 S0 P0 L0 (upd S h (S c)) (upd P h (P c)) (upd L (P c).toNat h) (fun i => if i = h then σ c else σ i) := by
  have hp : h < c := by rw [← pc]; exact par_lt (by omega)
  have hn := u.hn
  obtain ⟨m1, m2, m3, m4⟩ := move ix u.toBase (c := c) hc (by omega)
  have sn : ∀ i, i ≠ h → upd S h (S c) i = S i := fun i e => upd_ne _ _ _ _ e
  have ss : upd S h (S c) h = S c := upd_same _ _ _
  rcases u.way with ⟨anc, chg, nd⟩ | ⟨_, _, _, _, kids⟩
  · have su : ¬ σ c ≠ c := by
      intro q
      have := ((chg c hc (by omega)).1 q).2.le
      omega
    have su' : σ c = c := Classical.not_not.1 su
    refine { hn := hc, src := m1, ne := m2, idx := m3, out := m4, ord1 := ?_, ord2 := ?_, low := ?_, way := ?_ }
    · intro i h1 h2 h3 h4
      by_cases e : i = h
      · subst e
        have := par_lt (i := i) (by omega)
        rw [ss, sn _ (by omega)]
        exact u.ord2 c h1c hc pc h1
      · rw [sn i e]
        by_cases e2 : par i = h
        · rw [e2, ss]
          exact least i h1 h2 e2
        · rw [sn _ e2]
          exact u.ord1 i h1 h2 e e2
    · intro i h1 h2 h3 h4
      rw [pc, ss]
      have hi : i ≠ h := by
        intro e
        have := par_le i
        omega
      rw [sn i hi]
      have := u.ord1 i h1 h2 hi (by omega)
      rw [h3] at this
      exact this
    · intro _
      rw [pc, ss]
      omega
    · refine .inl ⟨?_, ?_, nd⟩
      · refine anc.trans ?_
        rw [← pc]
        exact Anc.up1 c
      · intro i hi hne
        by_cases e : i = h
        · subst e
          simp only [if_true]
          refine ⟨fun _ => ⟨anc, by rw [← pc]; exact Anc.up1 c⟩, fun _ => by rw [su']; omega⟩
        · simp only [if_neg e]
          rw [chg i hi e]
          constructor
          · rintro ⟨a, b⟩
            exact ⟨a, b.trans (by rw [← pc]; exact Anc.up1 c)⟩
          · rintro ⟨a, b⟩
            refine ⟨a, ?_⟩
            have := b.step hne
            rwa [pc] at this
  · have := kids c h1c hc pc
    omega

theorem dn_end {n m h s0 : Nat} {S0 P0 L0 S P L : Nat → Int} {σ : Nat → Nat} (hs : s0 < n) (ix : Idx0 n m P0 L0) (u : DnI n m h s0 S0 P0 L0 S P L σ)
    (stop : ∀ i, 1 ≤ i → i < n → par i = h → S0 s0 ≤ S i) :
    Fin n m s0 h S0 P0 L0 (upd S h (S0 s0)) (upd P h (P0 s0)) (upd L (P0 s0).toNat h) (fun i => if i = h then s0 else σ i) := by
  have hn := u.hn
  have sn : ∀ i, i ≠ h → upd S h (S0 s0) i = S i := fun i e => upd_ne _ _ _ _ e
  have ss : upd S h (S0 s0) h = S0 s0 := upd_same _ _ _
  refine { fl := hn, src := ?_, at_f := by simp, idx := ?_, out := ?_, ord := ?_, path := ?_, dirU := ?_, dirD := ?_ }
  · intro i hi
    by_cases e : i = h
    · subst e
      rw [if_pos rfl, upd_same, upd_same]
      exact ⟨hs, rfl, rfl⟩
    · simp only [if_neg e, upd_ne _ _ _ _ e]
      exact u.src i hi
  · intro i hi
    by_cases e : i = h
    · subst e
      rw [upd_same, upd_same]
    · rw [upd_ne _ _ _ _ e]
      have h1 := u.src i hi
      have h2 := ix.lo (σ i) h1.1
      have h3 := ix.lo s0 hs
      have h4 := u.ne i hi e
      rw [upd_ne _ _ _ _ (fun q => h4 (ix.inj h1.1 hs (by rw [h1.2.2] at q; omega)))]
      exact u.idx i hi e
  · intro p hp hno
    have h3 := ix.lo s0 hs
    have h4 := hno s0 hs
    rw [upd_ne _ _ _ _ (by omega)]
    exact u.out p hp hno
  · intro i h1 h2
    by_cases e : i = h
    · subst e
      have := par_lt (i := i) (by omega)
      rw [ss, sn _ (by omega)]
      exact u.low h1
    · rw [sn i e]
      by_cases e2 : par i = h
      · rw [e2, ss]
        exact stop i h1 h2 e2
      · rw [sn _ e2]
        exact u.ord1 i h1 h2 e e2
  · rcases u.way with ⟨anc, chg, nd⟩ | ⟨hne, anc, chg, _, kids⟩
    · refine ⟨s0, h, ?_, ?_, .inr ⟨rfl, rfl⟩, anc⟩
      · intro i hi q
        by_cases e : i = h
        · subst e
          exact ⟨anc, Anc.refl _⟩
        · simp only [if_neg e] at q
          exact (chg i hi e).1 q
      · intro i hi a b c
        by_cases e : i = h
        · subst e
          simpa using c
        · simp only [if_neg e]
          exact (chg i hi e).2 ⟨a, b⟩
    · refine ⟨h, s0, ?_, ?_, .inl ⟨rfl, rfl⟩, anc⟩
      · intro i hi q
        by_cases e : i = h
        · subst e
          exact ⟨Anc.refl _, anc⟩
        · simp only [if_neg e] at q
          exact (chg i hi e).1 q
      · intro i hi a b c
        by_cases e : i = h
        · subst e
          simp only [if_true]
          exact fun q => c q.symm
        · simp only [if_neg e]
          exact (chg i hi e).2 ⟨a, b⟩
  · intro q1 q2
    rcases u.way with ⟨anc, chg, nd⟩ | ⟨hne, anc, chg, _, kids⟩
    · exact absurd ⟨q1, q2⟩ nd
    · have := anc.le
      omega
  · intro q
    rcases u.way with ⟨anc, chg, nd⟩ | ⟨hne, anc, chg, d, kids⟩
    · exact anc.le
    · exact absurd d q
end Go.Proofs.Qxb6603154a
